/-
  The attributes that came in, out of the argument's reading.
-/
import Derived.Test.YbulkbgdkBase
import Derived.Test.YbulkbgdkOpen
import Derived.ProofKit
import Derived.OpenShut
namespace Go.Proofs.Ybulkbgdk
open Go.ChangeShapes Go.WideShapes Go.ChangeAt Go.RowKit
set_option linter.unusedVariables false

theorem wf8 {z : Int} (h : (Lit.int .u8 z).wf = true) : 0 ≤ z ∧ z ≤ 255 := by
  simp [Lit.wf, IntKind.min, IntKind.max, IntKind.signed, IntKind.bits] at h
  omega

/-- The slice of attributes that came in. -/
def IsAttrs (w : World) (a : Option Addr) (n cap : Nat) : Prop := (a = none → n = 0 ∧ cap = 0) ∧ ∃ L : List At, L.length = n ∧ In w a L

theorem isAttrs {H : Type} {enc : TypeId × Value → H} {w : World} {a : Option Addr} {n cap : Nat} {d : DataW H} {ps : List MemPlace} (h : ∃ fuel, DataW.trod enc Yba.prog w 0 (fun _ => true) true fuel 22 [.slice a n cap] = some (d, ps)) : IsAttrs w a n cap := by
  obtain ⟨fuel, hf⟩ := h
  refine ⟨?_, ?_⟩
  · intro ha
    subst ha
    rcases Go.Deep.open_slice Yba.underlying22 hf with ⟨hcs, _⟩ | ⟨a, l, c, m, n', D, Pl, hcs, _⟩
    · simp at hcs
      exact hcs
    · simp at hcs
  · have ho := OpenRows.open_rows Yba.underlying22 Yba.underlying24 3 (by kernel_rfl) (by
      intro i f hf
      match i, hf with
      | 0, hf => cases hf; exact ⟨rfl, by kernel_rfl⟩
      | 1, hf => cases hf; exact ⟨rfl, by kernel_rfl⟩
      | 2, hf => cases hf; exact ⟨rfl, by kernel_rfl⟩
      | _ + 3, hf => simp at hf) rfl (by omega) hf
    rcases ho.2.2 with rfl | ⟨b, off, rfl, hc⟩
    · exact ⟨[], rfl, fun A x D hL => by simp at hL⟩
    · have key : ∀ (j c : Nat) (f : Field), f.type = 9 → (∃ v n y, w.cell? ⟨b, off + j * 3 + c, none⟩ = some v ∧ DataW.trod enc Yba.prog w 0 (fun _ => true) true n f.type [v] = some y) → ∃ z : ByteArray, w.cell? ⟨b, off + j * 3 + c, none⟩ = some (.string z) := by
        rintro j c f hf9 ⟨v, n, y, hv, hy⟩
        rw [hf9] at hy
        obtain ⟨z, hz, _⟩ := DataW.trod_string Yba.underlying9 hy
        cases hz
        exact ⟨z, hv⟩
      have all : ∀ j, j < n → ∃ x : At, w.cell? ⟨b, off + j * 3, none⟩ = some (.string x.s) ∧ w.cell? ⟨b, off + j * 3 + 1, none⟩ = some (.string x.l) ∧ w.cell? ⟨b, off + j * 3 + 2, none⟩ = some (.string x.v) := by
        intro j hj
        obtain ⟨s, hs⟩ := key j 0 _ rfl (hc j hj 0 _ rfl)
        obtain ⟨l, hl⟩ := key j 1 _ rfl (hc j hj 1 _ rfl)
        obtain ⟨v, hv⟩ := key j 2 _ rfl (hc j hj 2 _ rfl)
        exact ⟨⟨s, l, v⟩, hs, hl, hv⟩
      have : Inhabited At := ⟨⟨ByteArray.empty, ByteArray.empty, ByteArray.empty⟩⟩
      obtain ⟨f, hf⟩ := Go.Deep.choose_lt all
      refine ⟨(List.range n).map f, by simp, fun A x D hL => ?_⟩
      have hx : ((List.range n).map f)[A.length]? = some x := by rw [hL]; simp
      have hA : A.length < n := by
        have := (List.getElem?_eq_some_iff.1 hx).1
        simpa using this
      rw [List.getElem?_map, List.getElem?_range hA] at hx
      simp at hx
      subst hx
      exact ⟨b, off, rfl, hf A.length hA⟩
end Go.Proofs.Ybulkbgdk
