/-
  No cell of these rows narrows 'for every input' (looked for: loops, veiled, ifaces, maps, wideKeys, modest, calm, conditions, laid).
  DERIVED. THE GIVEN ROWS OF THIS SEAT. 3 by the template 'for every input the law returns true; each argument reads behind the call as it read before'; 0 by the template 'total and deterministic' (their statements: YbulkbgciTotals.lean).
  GIVEN WITH THE SEED: the statements are not yours to turn. If you find one false, say at which input.
  Laid BY PROGRAM, IN A SANDBOX (cutbox-rows.mjs): the forced cells as the released guide's own fill.sh prints them over the translation 742d595df5432d4e… (all of the seat's roots in one cut). By AI agents, Wed Nov 11 2026. No macro, syntax, notation, axiom, sorry.
-/
import Derived.Test.YbulkbgciChecked
import GoSem.Claim
import GoSem.ClaimJoined
import GoSem.ClaimMapViews
import Derived.JoinedTies
import Derived.KernelRfl
namespace Go.Proofs.Ybulkbgci
/- THE CELL 'sum', in the pinned program and in every row, IS THE sha256 OF THE DUMP (.gsa) THAT YbulkbgciProg.lean LOADS. Nothing in Lean hashes anything: it is a label: what it is worth is what the hold of that sum in a sandbox is worth. -/
noncomputable def Yba.pinned : Pinned := { name := "ybulkbgci", sum := "742d595df5432d4e72edc491cab5e6513ec6dd0c81ab8d5bbf8ff044d4400837", checked := Yba.checked }
namespace Rows
def none {H : Type} : Left H := { results := [], args := [] }

/-- 'api.LawS2855AGive': WHATEVER THE INPUT: true; the input reads as it did. -/
def lawS2855AGiveSpec : ChangeSpec := { name := "lawS2855AGive", fn := fun _ => fun
  | [d1, d2, d3, d4] => { results := [.lit (.bool true)], args := [d1, d2, d3, d4] }
  | _ => none }
def lawS2855AGiveRow : OpenClaim := { program := "ybulkbgci", sum := "742d595df5432d4e72edc491cab5e6513ec6dd0c81ab8d5bbf8ff044d4400837", func := "example.com/trailreader/trailreader/api.LawS2855AGive", spec := "lawS2855AGive", inPlace := ["(*internal/sync.Mutex).Lock", "internal/race.Disable", "sync/atomic.CompareAndSwapInt32", "internal/race.Enable", "internal/race.Acquire", "(*internal/sync.Mutex).lockSlow", "internal/sync.runtime_canSpin", "internal/sync.runtime_doSpin", "internal/sync.throw", "internal/sync.runtime_nanotime", "internal/sync.runtime_SemacquireMutex", "sync/atomic.AddInt32", "(*internal/sync.Mutex).Unlock", "internal/race.ReleaseMerge", "(*internal/sync.Mutex).unlockSlow", "internal/sync.fatal", "internal/sync.runtime_Semrelease", "(*internal/sync.Mutex).TryLock"], plainKeys := false, apart := false }
def LawS2855AGiveSaid : Prop := lawS2855AGiveRow.holds Yba.pinned (OpenSpec.ofChange lawS2855AGiveSpec)

/-- ITS FALSE NEIGHBOUR: 'it returns false'. Refute it at one input. -/
def lawS2855AGiveWrong : ChangeSpec := { name := "lawS2855AGive", fn := fun _ => fun
  | [d1, d2, d3, d4] => { results := [.lit (.bool false)], args := [d1, d2, d3, d4] }
  | _ => none }
def LawS2855AGiveWrongFalsely : Prop := lawS2855AGiveRow.holds Yba.pinned (OpenSpec.ofChange lawS2855AGiveWrong)

/-- 'audit.LawS2855CScript': WHATEVER THE INPUT: true; the input reads as it did. -/
def lawS2855CScriptSpec : ChangeSpec := { name := "lawS2855CScript", fn := fun _ => fun
  | [d1, d2] => { results := [.lit (.bool true)], args := [d1, d2] }
  | _ => none }
def lawS2855CScriptRow : OpenClaim := { program := "ybulkbgci", sum := "742d595df5432d4e72edc491cab5e6513ec6dd0c81ab8d5bbf8ff044d4400837", func := "example.com/trailreader/trailreader/audit.LawS2855CScript", spec := "lawS2855CScript", inPlace := ["(*internal/sync.Mutex).Lock", "internal/race.Disable", "sync/atomic.CompareAndSwapInt32", "internal/race.Enable", "internal/race.Acquire", "(*internal/sync.Mutex).lockSlow", "internal/sync.runtime_canSpin", "internal/sync.runtime_doSpin", "internal/sync.throw", "internal/sync.runtime_nanotime", "internal/sync.runtime_SemacquireMutex", "sync/atomic.AddInt32", "(*internal/sync.Mutex).Unlock", "internal/race.ReleaseMerge", "(*internal/sync.Mutex).unlockSlow", "internal/sync.fatal", "internal/sync.runtime_Semrelease"], plainKeys := false, apart := false }
def LawS2855CScriptSaid : Prop := lawS2855CScriptRow.holds Yba.pinned (OpenSpec.ofChange lawS2855CScriptSpec)

/-- ITS FALSE NEIGHBOUR: 'it returns false'. Refute it at one input. -/
def lawS2855CScriptWrong : ChangeSpec := { name := "lawS2855CScript", fn := fun _ => fun
  | [d1, d2] => { results := [.lit (.bool false)], args := [d1, d2] }
  | _ => none }
def LawS2855CScriptWrongFalsely : Prop := lawS2855CScriptRow.holds Yba.pinned (OpenSpec.ofChange lawS2855CScriptWrong)

/-- 'audit.LawS2855CFront': WHATEVER THE INPUT: true; the input reads as it did. -/
def lawS2855CFrontSpec : ChangeSpec := { name := "lawS2855CFront", fn := fun _ => fun
  | [d1, d2, d3, d4] => { results := [.lit (.bool true)], args := [d1, d2, d3, d4] }
  | _ => none }
def lawS2855CFrontRow : OpenClaim := { program := "ybulkbgci", sum := "742d595df5432d4e72edc491cab5e6513ec6dd0c81ab8d5bbf8ff044d4400837", func := "example.com/trailreader/trailreader/audit.LawS2855CFront", spec := "lawS2855CFront", inPlace := ["(*internal/sync.Mutex).Lock", "internal/race.Disable", "sync/atomic.CompareAndSwapInt32", "internal/race.Enable", "internal/race.Acquire", "(*internal/sync.Mutex).lockSlow", "internal/sync.runtime_canSpin", "internal/sync.runtime_doSpin", "internal/sync.throw", "internal/sync.runtime_nanotime", "internal/sync.runtime_SemacquireMutex", "sync/atomic.AddInt32", "(*internal/sync.Mutex).Unlock", "internal/race.ReleaseMerge", "(*internal/sync.Mutex).unlockSlow", "internal/sync.fatal", "internal/sync.runtime_Semrelease"], plainKeys := false, apart := false }
def LawS2855CFrontSaid : Prop := lawS2855CFrontRow.holds Yba.pinned (OpenSpec.ofChange lawS2855CFrontSpec)

/-- ITS FALSE NEIGHBOUR: 'it returns false'. Refute it at one input. -/
def lawS2855CFrontWrong : ChangeSpec := { name := "lawS2855CFront", fn := fun _ => fun
  | [d1, d2, d3, d4] => { results := [.lit (.bool false)], args := [d1, d2, d3, d4] }
  | _ => none }
def LawS2855CFrontWrongFalsely : Prop := lawS2855CFrontRow.holds Yba.pinned (OpenSpec.ofChange lawS2855CFrontWrong)

end Rows
end Go.Proofs.Ybulkbgci
