/-
  NARROWER THAN 'FOR EVERY INPUT', by the rows' own cells (each row's printed sentence says how): LawS2857BPresence: laid.
  DERIVED. THE GIVEN ROWS OF THIS SEAT. 1 by the template 'for every input the law returns true; each argument reads behind the call as it read before'; 0 by the template 'total and deterministic' (their statements: YbulkbgdkDoorTotals.lean).
  GIVEN WITH THE SEED: the statements are not yours to turn. If you find one false, say at which input.
  Laid BY PROGRAM, IN A SANDBOX (cutbox-rows.mjs): the forced cells as the released guide's own fill.sh prints them over the translation 3d503605f10ad927… (all of the seat's roots in one cut). By AI agents, Wed Nov 11 2026. No macro, syntax, notation, axiom, sorry.
-/
import Derived.Test.YbulkbgdkDoorChecked
import GoSem.Claim
import GoSem.ClaimJoined
import GoSem.ClaimMapViews
import Derived.JoinedTies
import Derived.KernelRfl
namespace Go.Proofs.YbulkbgdkDoor
/- THE CELL 'sum', in the pinned program and in every row, IS THE sha256 OF THE DUMP (.gsa) THAT YbulkbgdkDoorProg.lean LOADS. Nothing in Lean hashes anything: it is a label: what it is worth is what the hold of that sum in a sandbox is worth. -/
noncomputable def Ybad.pinned : Pinned := { name := "ybulkbgdkdoor", sum := "3d503605f10ad92730640cc77cf438ef8860fe6d7a279ce78816e27244dfe3b1", checked := Ybad.checked }
namespace Rows
def none {H : Type} : Left H := { results := [], args := [] }

/- WHAT THE LISTED PACKAGE-LEVEL VARIABLES READ AS WHEN THE CALL BEGINS. Each datum BY PROGRAM (the guide's laid-datum.mjs) off the statement by which the dump's own 'gosem.cut.vars' lays the variable. In a bare row this is a premise. The card (YbulkbgdkDoorCards.lean) ties it to the program's text. -/
def laid_example_com_syncline_syncline_serve_preconditions {H : Type} : DataW H := .slice [.lit (.string [73, 102, 45, 77, 97, 116, 99, 104]), .lit (.string [73, 102, 45, 78, 111, 110, 101, 45, 77, 97, 116, 99, 104]), .lit (.string [73, 102, 45, 77, 111, 100, 105, 102, 105, 101, 100, 45, 83, 105, 110, 99, 101]), .lit (.string [73, 102, 45, 85, 110, 109, 111, 100, 105, 102, 105, 101, 100, 45, 83, 105, 110, 99, 101]), .lit (.string [82, 97, 110, 103, 101])] []

/-- 'serve.LawS2857BPresence': WHATEVER THE INPUT: true; the input reads as it did. -/
def lawS2857BPresenceSpec : ChangeSpec := { name := "lawS2857BPresence", vars := ["example.com/syncline/syncline/serve.preconditions"], fn := fun _ => fun
  | [d1, d2, d3, d4, g1] => { results := [.lit (.bool true)], args := [d1, d2, d3, d4], vars := [g1] }
  | _ => none }
def lawS2857BPresenceRow : OpenClaim := { program := "ybulkbgdkdoor", sum := "3d503605f10ad92730640cc77cf438ef8860fe6d7a279ce78816e27244dfe3b1", func := "example.com/syncline/syncline/serve.LawS2857BPresence", spec := "lawS2857BPresence", named := ["example.com/syncline/syncline/serve.preconditions"], apart := false, laid := [("example.com/syncline/syncline/serve.preconditions", laid_example_com_syncline_syncline_serve_preconditions)] }
def LawS2857BPresenceSaid : Prop := lawS2857BPresenceRow.holds Ybad.pinned (OpenSpec.ofChange lawS2857BPresenceSpec)

/-- ITS FALSE NEIGHBOUR: 'it returns false'. Refute it at one input. -/
def lawS2857BPresenceWrong : ChangeSpec := { name := "lawS2857BPresence", vars := ["example.com/syncline/syncline/serve.preconditions"], fn := fun _ => fun
  | [d1, d2, d3, d4, g1] => { results := [.lit (.bool false)], args := [d1, d2, d3, d4], vars := [g1] }
  | _ => none }
def LawS2857BPresenceWrongFalsely : Prop := lawS2857BPresenceRow.holds Ybad.pinned (OpenSpec.ofChange lawS2857BPresenceWrong)

end Rows
end Go.Proofs.YbulkbgdkDoor
