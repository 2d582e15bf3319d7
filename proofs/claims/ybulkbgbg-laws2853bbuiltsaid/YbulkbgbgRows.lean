/-
  No cell of these rows narrows 'for every input' (looked for: loops, veiled, ifaces, maps, wideKeys, modest, calm, conditions, laid).
  DERIVED. THE GIVEN ROWS OF THIS SEAT. 2 by the template 'for every input the law returns true; each argument reads behind the call as it read before'; 0 by the template 'total and deterministic' (their statements: YbulkbgbgTotals.lean).
  GIVEN WITH THE SEED: the statements are not yours to turn. If you find one false, say at which input.
  Laid BY PROGRAM, IN A SANDBOX (cutbox-rows.mjs): the forced cells as the released guide's own fill.sh prints them over the translation 518bf86c2ad0052e… (all of the seat's roots in one cut). By AI agents, Wed Nov 11 2026. No macro, syntax, notation, axiom, sorry.
-/
import Derived.Test.YbulkbgbgChecked
import GoSem.Claim
import GoSem.ClaimJoined
import GoSem.ClaimMapViews
import Derived.JoinedTies
import Derived.KernelRfl
namespace Go.Proofs.Ybulkbgbg
/- THE CELL 'sum', in the pinned program and in every row, IS THE sha256 OF THE DUMP (.gsa) THAT YbulkbgbgProg.lean LOADS. Nothing in Lean hashes anything: it is a label: what it is worth is what the hold of that sum in a sandbox is worth. -/
noncomputable def Yba.pinned : Pinned := { name := "ybulkbgbg", sum := "518bf86c2ad0052e9a75f93e0ce3b05ca4e516280b57b57db77e9489faa809cb", checked := Yba.checked }
namespace Rows
def none {H : Type} : Left H := { results := [], args := [] }

/-- 'match.LawS2853BBytes': WHATEVER THE INPUT: true; the input reads as it did. -/
def lawS2853BBytesSpec : ChangeSpec := { name := "lawS2853BBytes", fn := fun _ => fun
  | [d] => { results := [.lit (.bool true)], args := [d] }
  | _ => none }
def lawS2853BBytesRow : OpenClaim := { program := "ybulkbgbg", sum := "518bf86c2ad0052e9a75f93e0ce3b05ca4e516280b57b57db77e9489faa809cb", func := "example.com/hookwright/hookwright/match.LawS2853BBytes", spec := "lawS2853BBytes", apart := false }
def LawS2853BBytesSaid : Prop := lawS2853BBytesRow.holds Yba.pinned (OpenSpec.ofChange lawS2853BBytesSpec)

/-- ITS FALSE NEIGHBOUR: 'it returns false'. Refute it at one input. -/
def lawS2853BBytesWrong : ChangeSpec := { name := "lawS2853BBytes", fn := fun _ => fun
  | [d] => { results := [.lit (.bool false)], args := [d] }
  | _ => none }
def LawS2853BBytesWrongFalsely : Prop := lawS2853BBytesRow.holds Yba.pinned (OpenSpec.ofChange lawS2853BBytesWrong)

/-- 'match.LawS2853BBuilt': WHATEVER THE INPUT: true; the input reads as it did. -/
def lawS2853BBuiltSpec : ChangeSpec := { name := "lawS2853BBuilt", fn := fun _ => fun
  | [d] => { results := [.lit (.bool true)], args := [d] }
  | _ => none }
def lawS2853BBuiltRow : OpenClaim := { program := "ybulkbgbg", sum := "518bf86c2ad0052e9a75f93e0ce3b05ca4e516280b57b57db77e9489faa809cb", func := "example.com/hookwright/hookwright/match.LawS2853BBuilt", spec := "lawS2853BBuilt", apart := false }
def LawS2853BBuiltSaid : Prop := lawS2853BBuiltRow.holds Yba.pinned (OpenSpec.ofChange lawS2853BBuiltSpec)

/-- ITS FALSE NEIGHBOUR: 'it returns false'. Refute it at one input. -/
def lawS2853BBuiltWrong : ChangeSpec := { name := "lawS2853BBuilt", fn := fun _ => fun
  | [d] => { results := [.lit (.bool false)], args := [d] }
  | _ => none }
def LawS2853BBuiltWrongFalsely : Prop := lawS2853BBuiltRow.holds Yba.pinned (OpenSpec.ofChange lawS2853BBuiltWrong)

end Rows
end Go.Proofs.Ybulkbgbg
