/-
  No cell of these rows narrows 'for every input' (looked for: loops, veiled, ifaces, maps, wideKeys, modest, calm, conditions, laid).
  DERIVED. THE GIVEN ROWS OF THIS SEAT. 2 by the template 'for every input the law returns true; each argument reads behind the call as it read before'; 0 by the template 'total and deterministic' (their statements: YbulkbgdkTotals.lean).
  GIVEN WITH THE SEED: the statements are not yours to turn. If you find one false, say at which input.
  Laid BY PROGRAM, IN A SANDBOX (cutbox-rows.mjs): the forced cells as the released guide's own fill.sh prints them over the translation 06d434dafcacfa64… (all of the seat's roots in one cut). By AI agents, Wed Nov 11 2026. No macro, syntax, notation, axiom, sorry.
-/
import Derived.Test.YbulkbgdkChecked
import GoSem.Claim
import GoSem.ClaimJoined
import GoSem.ClaimMapViews
import Derived.JoinedTies
import Derived.KernelRfl
namespace Go.Proofs.Ybulkbgdk
/- THE CELL 'sum', in the pinned program and in every row, IS THE sha256 OF THE DUMP (.gsa) THAT YbulkbgdkProg.lean LOADS. Nothing in Lean hashes anything: it is a label: what it is worth is what the hold of that sum in a sandbox is worth. -/
noncomputable def Yba.pinned : Pinned := { name := "ybulkbgdk", sum := "06d434dafcacfa643e991cf3b983202578d2b7af72c661b310197878a65d74f6", checked := Yba.checked }
namespace Rows
def none {H : Type} : Left H := { results := [], args := [] }

/-- 'rrdp.LawS2857AFirst': WHATEVER THE INPUT: true; the input reads as it did. -/
def lawS2857AFirstSpec : ChangeSpec := { name := "lawS2857AFirst", fn := fun _ => fun
  | [d1, d2, d3] => { results := [.lit (.bool true)], args := [d1, d2, d3] }
  | _ => none }
def lawS2857AFirstRow : OpenClaim := { program := "ybulkbgdk", sum := "06d434dafcacfa643e991cf3b983202578d2b7af72c661b310197878a65d74f6", func := "example.com/syncline/syncline/rrdp.LawS2857AFirst", spec := "lawS2857AFirst", apart := false }
def LawS2857AFirstSaid : Prop := lawS2857AFirstRow.holds Yba.pinned (OpenSpec.ofChange lawS2857AFirstSpec)

/-- ITS FALSE NEIGHBOUR: 'it returns false'. Refute it at one input. -/
def lawS2857AFirstWrong : ChangeSpec := { name := "lawS2857AFirst", fn := fun _ => fun
  | [d1, d2, d3] => { results := [.lit (.bool false)], args := [d1, d2, d3] }
  | _ => none }
def LawS2857AFirstWrongFalsely : Prop := lawS2857AFirstRow.holds Yba.pinned (OpenSpec.ofChange lawS2857AFirstWrong)

/-- 'rrdp.LawS2857ANamespaced': WHATEVER THE INPUT: true; the input reads as it did. -/
def lawS2857ANamespacedSpec : ChangeSpec := { name := "lawS2857ANamespaced", fn := fun _ => fun
  | [d1, d2, d3, d4, d5] => { results := [.lit (.bool true)], args := [d1, d2, d3, d4, d5] }
  | _ => none }
def lawS2857ANamespacedRow : OpenClaim := { program := "ybulkbgdk", sum := "06d434dafcacfa643e991cf3b983202578d2b7af72c661b310197878a65d74f6", func := "example.com/syncline/syncline/rrdp.LawS2857ANamespaced", spec := "lawS2857ANamespaced", apart := false }
def LawS2857ANamespacedSaid : Prop := lawS2857ANamespacedRow.holds Yba.pinned (OpenSpec.ofChange lawS2857ANamespacedSpec)

/-- ITS FALSE NEIGHBOUR: 'it returns false'. Refute it at one input. -/
def lawS2857ANamespacedWrong : ChangeSpec := { name := "lawS2857ANamespaced", fn := fun _ => fun
  | [d1, d2, d3, d4, d5] => { results := [.lit (.bool false)], args := [d1, d2, d3, d4, d5] }
  | _ => none }
def LawS2857ANamespacedWrongFalsely : Prop := lawS2857ANamespacedRow.holds Yba.pinned (OpenSpec.ofChange lawS2857ANamespacedWrong)

end Rows
end Go.Proofs.Ybulkbgdk
