/-
  The header map that the law makes: which keys are in it.
-/
import Derived.Test.YbulkbgdkDoorRows
import Derived.Maps.OwnSet
import Derived.Maps.Views
import Derived.ProofKit
import Derived.WalkKit
import Derived.WalkSpells
import Derived.Below
namespace Go.Proofs.YbulkbgdkDoor
open Go.Maps Go.RowKit
set_option linter.unusedVariables false

theorem law9 : Keyed Ybad.prog 9 := string_keyed Ybad.underlying9
def elemR (_ : Value) : Option (DataW Unit × List MemPlace) := some (.nil, [])

/-- Block M is a map of at most n entries; f tells which keys are in it. -/
def MapIs (w : World) (M n : Nat) (f : ByteArray → Bool) : Prop :=
  ∃ D : DataW Unit, w.ownsMap Ybad.prog 9 elemR M n D ∧ ∀ s kl, keyOf Ybad.prog 9 (.string s) = some kl → Maps.has D kl = f s

theorem MapIs.blk {w w' : World} {M n : Nat} {f : ByteArray → Bool} (h : MapIs w M n f) (hb : w'.heap[M]? = w.heap[M]?) : MapIs w' M n f := by
  obtain ⟨D, ⟨es, cl, h1, h2⟩, h3⟩ := h
  exact ⟨D, ⟨es, cl, hb.trans h1, h2⟩, h3⟩
theorem MapIs.lt {w : World} {M n : Nat} {f : ByteArray → Bool} (h : MapIs w M n f) : M < w.heap.size := by
  obtain ⟨D, ⟨es, cl, h1, h2⟩, h3⟩ := h
  exact (Array.getElem?_eq_some_iff.1 h1).1
theorem MapIs.made (w : World) : MapIs (w.alloc (.map #[] 0)) w.heap.size 0 (fun _ => false) :=
  ⟨_, World.ownsMap_made w Ybad.prog 9 elemR, fun _ _ _ => rfl⟩

theorem key_ex (s : ByteArray) (hs : s.size ≤ maxLen) : ∃ l, keyOf Ybad.prog 9 (.string s) = some l := ⟨_, Go.WideMaps.keyOf_string_mk Ybad.underlying9 hs⟩

theorem MapIs.look {w : World} {M n : Nat} {f : ByteArray → Bool} (h : MapIs w M n f) (s : ByteArray) (hs : s.size ≤ maxLen) :
    ∃ v, (Instr.lookup 29 (.map (some M)) (.string s) true).run Ybad.prog w = .ok (.tuple #[v, .bool (f s)]) w := by
  obtain ⟨D, hown, hD⟩ := h
  obtain ⟨kl, hkl⟩ := key_ex s hs
  obtain ⟨v, ps, hrun, hv⟩ := hown.look_ok law9 Ybad.underlying29 (Ybad.zeroValue22 w) (zd := .nil) (zp := []) rfl hkl
  exact ⟨v, by rw [hrun, hD s kl hkl]⟩

theorem look_nil (w : World) (s : ByteArray) (hs : s.size ≤ maxLen) : (Instr.lookup 29 (.map none) (.string s) true).run Ybad.prog w = .ok (.tuple #[.slice none 0 0, .bool false]) w := by
  obtain ⟨kl, hkl⟩ := key_ex s hs
  exact Maps.look_nil true law9 Ybad.underlying29 (Ybad.zeroValue22 w) hkl

theorem MapIs.put {w : World} {M n : Nat} {f : ByteArray → Bool} (h : MapIs w M n f) (s : ByteArray) (hs : s.size ≤ maxLen) (hn : n < maxLen) (val : Value) :
    ∃ w', (Instr.mapUpdate 24 (.map (some M)) (.string s) val).run Ybad.prog w = .ok () w' ∧ MapIs w' M (n + 1) (fun s' => decide (s' = s) || f s') ∧ w.mapTurned w' M := by
  obtain ⟨D, hown, hD⟩ := h
  obtain ⟨kl, hkl⟩ := key_ex s hs
  obtain ⟨w', hrun, hown', ht⟩ := hown.store law9 Ybad.underlying24 hn hkl (val := val) (d := .nil) (ps := []) rfl
  refine ⟨w', hrun, ⟨_, hown', fun s' kl' hk' => ?_⟩, ht⟩
  by_cases e1 : s' = s
  · subst e1
    rw [hkl] at hk'
    cases hk'
    simp only [decide_true, Bool.true_or]
    exact has_put_same hown.isMap (law9.key hkl) _
  · have hne : kl' ≠ kl := fun e2 => e1 (by have := law9.inj hk' (e2 ▸ hkl); cases this; rfl)
    rw [has_put_other hne, hD s' kl' hk']
    simp [e1]

/-- The five names. -/
def P0 : ByteArray := ⟨#[73, 102, 45, 77, 97, 116, 99, 104]⟩
def P1 : ByteArray := ⟨#[73, 102, 45, 78, 111, 110, 101, 45, 77, 97, 116, 99, 104]⟩
def P2 : ByteArray := ⟨#[73, 102, 45, 77, 111, 100, 105, 102, 105, 101, 100, 45, 83, 105, 110, 99, 101]⟩
def P3 : ByteArray := ⟨#[73, 102, 45, 85, 110, 109, 111, 100, 105, 102, 105, 101, 100, 45, 83, 105, 110, 99, 101]⟩
def P4 : ByteArray := ⟨#[82, 97, 110, 103, 101]⟩
def prec (s : ByteArray) : Bool := decide (s = P0) || decide (s = P1) || decide (s = P2) || decide (s = P3) || decide (s = P4)
/-- Some name of the five is in the map. -/
def held (f : ByteArray → Bool) : Bool := f P0 || f P1 || f P2 || f P3 || f P4
theorem held_put (f : ByteArray → Bool) (s : ByteArray) : held (fun s' => decide (s' = s) || f s') = (held f || prec s) := by
  have e : ∀ p : ByteArray, decide (p = s) = decide (s = p) := fun p => decide_eq_decide.2 ⟨Eq.symm, Eq.symm⟩
  simp only [held, prec, e]
  generalize decide (s = P0) = a0
  generalize decide (s = P1) = a1
  generalize decide (s = P2) = a2
  generalize decide (s = P3) = a3
  generalize decide (s = P4) = a4
  generalize f P0 = b0
  generalize f P1 = b1
  generalize f P2 = b2
  generalize f P3 = b3
  generalize f P4 = b4
  cases a0 <;> cases a1 <;> cases a2 <;> cases a3 <;> cases a4 <;> cases b0 <;> cases b1 <;> cases b2 <;> cases b3 <;> cases b4 <;> rfl

theorem str_eq (s t : ByteArray) : (s.toList == t.toList) = decide (s = t) := by
  by_cases h : s = t
  · subst h; simp
  · have : s.toList ≠ t.toList := fun e => h (Go.WideShapes.bytes_inj (by rw [← ByteArray.toList_eq, ← ByteArray.toList_eq]; exact e))
    simp [h, this]
end Go.Proofs.YbulkbgdkDoor
