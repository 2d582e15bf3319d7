/-
  A slice of structs, each field one cell, that came in: its cells.
-/
import Derived.Deep.Slices
import Derived.Deep.Fields
namespace Go.Proofs.OpenRows
open Go.ChangeShapes Go.WideShapes Go.Deep
set_option linter.unusedVariables false

theorem open_rows {H : Type} {enc : TypeId × Value → H} {P : Program} {w : World} {base : Nat} {spare : Nat → Bool} {held : Bool} {fuel : Nat} {t e : TypeId} {fs : Array Field} {a1 : Option Addr} {len cap : Nat} {x : DataW H × List MemPlace}
    (ht : P.underlying t = some (.slice e)) (hs : P.underlying e = some (.struct fs)) (C : Nat) (hC : P.cellsOf e = C) (hone : ∀ (i : Nat) (f : Field), fs[i]? = some f → f.offset = i ∧ P.cellsOf f.type = 1) (hsz : fs.size = C) (hpos : 0 < C)
    (h : DataW.trod enc P w base spare held fuel t [.slice a1 len cap] = some x) :
    len ≤ cap ∧ cap ≤ maxLen ∧ (len = 0 ∨ ∃ b off, a1 = some ⟨b, off, none⟩ ∧ ∀ j, j < len → ∀ (i : Nat) (f : Field), fs[i]? = some f → ∃ v n y, w.cell? ⟨b, off + j * C + i, none⟩ = some v ∧ DataW.trod enc P w base spare held n f.type [v] = some y) := by
  rcases open_slice ht h with ⟨hcs, _⟩ | ⟨a, l, c, m, n, D, Pl, hcs, hb, hlc, hcm, hm, hx, hall⟩
  · simp at hcs
    obtain ⟨_, rfl, rfl⟩ := hcs
    exact ⟨Nat.le_refl _, Nat.zero_le _, .inl rfl⟩
  · simp at hcs
    obtain ⟨rfl, rfl, rfl⟩ := hcs
    refine ⟨hlc, hcm, ?_⟩
    by_cases h0 : len = 0
    · exact .inl h0
    have hle : len ≤ m := by rw [hm]; split <;> omega
    rw [hC] at hall
    obtain ⟨b, off, spot⟩ := a
    have hcells : ∀ j, j < len → ∀ i, i < C → ∃ v, w.cell? (((⟨b, off, spot⟩ : Addr).add (j * C)).add i) = some v := by
      intro j hj i hi
      obtain ⟨cs', h1, _⟩ := hall j (by omega)
      obtain ⟨_, h2, h3⟩ := World.cells?_some h1
      exact ⟨cs'[i]'(by omega), by rw [h3 i hi, List.getElem?_eq_getElem]⟩
    have hspot : spot = none := by
      obtain ⟨v, hv⟩ := hcells 0 (by omega) 0 hpos
      have := World.cell?_spot hv
      simpa [Addr.add] using this
    subst hspot
    refine .inr ⟨b, off, rfl, fun j hj i f hf => ?_⟩
    obtain ⟨cs', h1, h2⟩ := hall j (by omega)
    obtain ⟨_, h3, h4⟩ := World.cells?_some h1
    obtain ⟨xs, n', _, _, _, hxl, hfs⟩ := DataW.trod_struct hs h2
    have hi : i < C := by have := (Array.getElem?_eq_some_iff.1 hf).1; omega
    obtain ⟨ho, hc1⟩ := hone i f hf
    have g := hfs i f hf
    have hdrop : (cs'.drop i).take 1 = [cs'[i]'(by omega)] := by
      rw [List.drop_eq_getElem_cons (by omega)]
      rfl
    rw [ho, hc1, hdrop, List.getElem?_eq_getElem (by omega)] at g
    refine ⟨_, n', _, ?_, g⟩
    have := h4 i hi
    have e : ((⟨b, off, none⟩ : Addr).add (j * C)).add i = ⟨b, off + j * C + i, none⟩ := by
      rw [add_add]
      unfold Addr.add
      split <;> simp_all <;> omega
    rw [e, List.getElem?_eq_getElem (by omega)] at this
    exact this
end Go.Proofs.OpenRows
