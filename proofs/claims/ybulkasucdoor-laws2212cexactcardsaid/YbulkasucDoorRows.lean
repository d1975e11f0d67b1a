/-
  NARROWER THAN 'FOR EVERY INPUT', by the rows' own cells (each row's printed sentence says how): LawS2212CExact: ifaces, laid · LawS2212CTwoHalves: ifaces, laid.
  DERIVED. THE GIVEN ROWS OF THIS SEAT. 2 by the template 'for every input the law returns true; each argument reads behind the call as it read before'; 0 by the template 'total and deterministic' (their statements: YbulkasucDoorTotals.lean).
  GIVEN WITH THE SEED: the statements are not yours to turn. If you find one false, say at which input.
  Laid BY PROGRAM, IN A SANDBOX (cutbox-rows.mjs): the forced cells as the released guide's own fill.sh prints them over the translation 78880c38931ec766… (all of the seat's roots in one cut). By AI agents, Wed Nov 11 2026. No macro, syntax, notation, axiom, sorry.
-/
import Derived.Test.YbulkasucDoorChecked
import GoSem.Claim
import GoSem.ClaimJoined
import GoSem.ClaimMapViews
import Derived.JoinedTies
import Derived.KernelRfl
namespace Go.Proofs.YbulkasucDoor
/- THE CELL 'sum', in the pinned program and in every row, IS THE sha256 OF THE DUMP (.gsa) THAT YbulkasucDoorProg.lean LOADS. Nothing in Lean hashes anything: it is a label: what it is worth is what the hold of that sum in a sandbox is worth. -/
noncomputable def Ybad.pinned : Pinned := { name := "ybulkasucdoor", sum := "78880c38931ec766047f1665437567335b15add1beba93ee7d26214a4619a45c", checked := Ybad.checked }
namespace Rows
def none {H : Type} : Left H := { results := [], args := [] }

/- WHAT THE LISTED PACKAGE-LEVEL VARIABLES READ AS WHEN THE CALL BEGINS. Each datum BY PROGRAM (the guide's laid-datum.mjs) off the statement by which the dump's own 'gosem.cut.vars' lays the variable. In a bare row this is a premise. The card (YbulkasucDoorCards.lean) ties it to the program's text. -/
def laid_example_com_findtree_findtree_internal_reload_errTruncated {H : Type} : DataW H := .iface "*errors.errorString" (.ptr (.agg [.lit (.string [116, 114, 117, 110, 99, 97, 116, 101, 100])]))

/-- 'reload.LawS2212CExact': WHATEVER THE INPUT: true; the input reads as it did. -/
def lawS2212CExactSpec : ChangeSpec := { name := "lawS2212CExact", vars := ["example.com/findtree/findtree/internal/reload.errTruncated"], fn := fun _ => fun
  | [d1, d2, g1] => { results := [.lit (.bool true)], args := [d1, d2], vars := [g1] }
  | _ => none }
def lawS2212CExactRow : OpenClaim := { program := "ybulkasucdoor", sum := "78880c38931ec766047f1665437567335b15add1beba93ee7d26214a4619a45c", func := "example.com/findtree/findtree/internal/reload.LawS2212CExact", spec := "lawS2212CExact", inPlace := ["internal/reflectlite.TypeOf"], unfollowed := true, recurses := true, named := ["example.com/findtree/findtree/internal/reload.errTruncated", "encoding/binary.BigEndian"], ifaces := true, apart := false, laid := [("example.com/findtree/findtree/internal/reload.errTruncated", laid_example_com_findtree_findtree_internal_reload_errTruncated)] }
def LawS2212CExactSaid : Prop := lawS2212CExactRow.holds Ybad.pinned (OpenSpec.ofChange lawS2212CExactSpec)

/-- ITS FALSE NEIGHBOUR: 'it returns false'. Refute it at one input. -/
def lawS2212CExactWrong : ChangeSpec := { name := "lawS2212CExact", vars := ["example.com/findtree/findtree/internal/reload.errTruncated"], fn := fun _ => fun
  | [d1, d2, g1] => { results := [.lit (.bool false)], args := [d1, d2], vars := [g1] }
  | _ => none }
def LawS2212CExactWrongFalsely : Prop := lawS2212CExactRow.holds Ybad.pinned (OpenSpec.ofChange lawS2212CExactWrong)

/-- 'reload.LawS2212CTwoHalves': WHATEVER THE INPUT: true; the input reads as it did. -/
def lawS2212CTwoHalvesSpec : ChangeSpec := { name := "lawS2212CTwoHalves", vars := ["example.com/findtree/findtree/internal/reload.errTruncated"], fn := fun _ => fun
  | [d1, d2, g1] => { results := [.lit (.bool true)], args := [d1, d2], vars := [g1] }
  | _ => none }
def lawS2212CTwoHalvesRow : OpenClaim := { program := "ybulkasucdoor", sum := "78880c38931ec766047f1665437567335b15add1beba93ee7d26214a4619a45c", func := "example.com/findtree/findtree/internal/reload.LawS2212CTwoHalves", spec := "lawS2212CTwoHalves", named := ["encoding/binary.BigEndian", "example.com/findtree/findtree/internal/reload.errTruncated"], ifaces := true, apart := false, laid := [("example.com/findtree/findtree/internal/reload.errTruncated", laid_example_com_findtree_findtree_internal_reload_errTruncated)] }
def LawS2212CTwoHalvesSaid : Prop := lawS2212CTwoHalvesRow.holds Ybad.pinned (OpenSpec.ofChange lawS2212CTwoHalvesSpec)

/-- ITS FALSE NEIGHBOUR: 'it returns false'. Refute it at one input. -/
def lawS2212CTwoHalvesWrong : ChangeSpec := { name := "lawS2212CTwoHalves", vars := ["example.com/findtree/findtree/internal/reload.errTruncated"], fn := fun _ => fun
  | [d1, d2, g1] => { results := [.lit (.bool false)], args := [d1, d2], vars := [g1] }
  | _ => none }
def LawS2212CTwoHalvesWrongFalsely : Prop := lawS2212CTwoHalvesRow.holds Ybad.pinned (OpenSpec.ofChange lawS2212CTwoHalvesWrong)

end Rows
end Go.Proofs.YbulkasucDoor
