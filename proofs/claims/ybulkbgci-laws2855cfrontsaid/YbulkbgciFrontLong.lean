/-
  The law LawS2855CFront: a script that is too long is let be.
-/
import Derived.Test.YbulkbgciState
namespace Go.Proofs.Ybulkbgci
open Go.RowKit Go.MuLone
set_option linter.unusedVariables false

set_option maxRecDepth 100000 in
theorem front_long (lm oo aa : Int) (a1 : Option Addr) (n cap : Nat) (w : World) (hn : 1024 < n) :
    Calls Yba.prog 5 #[.int .u8 lm, .slice a1 n cap, .int .u8 oo, .int .u8 aa] w fun e w' => e = .returned (.bool true) ∧ Below w.heap.size w w' := by
  have hn' : (1024 : Int) < (n : Int) := by omega
  go_enter Yba.func5, Yba.ntmps5
  go_wp2
  go_ret
  exact ⟨rfl, Below.refl _ _⟩
end Go.Proofs.Ybulkbgci
