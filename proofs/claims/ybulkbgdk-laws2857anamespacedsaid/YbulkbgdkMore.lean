/-
  Appends of attributes.
-/
import Derived.Test.YbulkbgdkSame
namespace Go.Proofs.Ybulkbgdk
open Go.RowKit
set_option linter.unusedVariables false

/-- Attributes behind the others. -/
theorem wpList_append_more {ops : Array Oper} {rest : List Oper} {o : Oper} {a : Act} {Q : Exit → Act → World → Prop} (wX : World) (hgd : o.guard = none) (s x : Operand) (ho : o.op = .call { callee := .builtin .append, args := #[s, x], argTypes := #[26, 26] })
    (B : Nat) (A L : List At) (v m : Value) (hs : a.eval s = v) (hx : a.eval x = m) (hown : Own wX B v A) (hm : Own wX B m L) (hB : B ≤ wX.heap.size) (hl : A.length + L.length ≤ 5000)
    (h : ∀ v' w', Own w' B v' (A ++ L) → Below B wX w' → wpList Yba.prog ops Q rest (a.put o.dst v') w') :
    wpList Yba.prog ops Q (o :: rest) a wX := by
  obtain ⟨i0, hi, hz0, hz1, hz2⟩ := info_parts Yba.info36
  have hm' : wX.ownsRow B 36 3 m L.length (aflat L) := hm
  rcases hm.2 with ⟨rfl, h0⟩ | ⟨g, cap, cur, rfl, _⟩
  · have hL : L = [] := List.eq_nil_of_length_eq_zero h0
    subst hL
    refine wpList_append_own_none hgd s x 26 ho B 36 i0 3 Yba.underlying26 hi v A.length (aflat A) hs hown hx ?_
    exact h _ _ (by rw [List.append_nil]; exact hown) (Below.refl _ _)
  · refine wpList_append_own _ hgd s x 26 ho B 36 i0 _ 3 48 Yba.underlying26 hi hz0 hz1 hz2 rfl (by omega) v A.length (aflat A) hs hown ⟨g, 0, none⟩ L.length cap (aflat L) hx (aflat_length L) ?_ (aone L) (by unfold maxLen; omega) (by omega) hB ?_
    · intro j u hj
      have hjl : j < L.length * 3 := by
        have := (List.getElem?_eq_some_iff.1 hj).1
        rwa [aflat_length] at this
      rw [show (⟨g, 0, none⟩ : Addr).add j = ⟨g, j, none⟩ by unfold Addr.add; split <;> simp_all, hm'.cellAt j hjl]
      exact hj
    · intro v' w' hown' hg _
      refine h v' w' ?_ ?_
      · show World.ownsRow _ _ _ _ _ _ _
        rw [aflat_append, List.length_append]
        exact hown'
      · refine (Below.refl B wX).grown hg hB ?_
        intro k hk
        rcases hown.2 with ⟨rfl, _⟩ | ⟨g', cap', cur', rfl, hBg, _⟩
        · simp [Value.ownBlock] at hk
        · simp [Value.ownBlock] at hk; omega

/-- One attribute, laid by the call, behind the others. -/
theorem wpList_append_at {ops : Array Oper} {rest : List Oper} {o : Oper} {a : Act} {Q : Exit → Act → World → Prop} (wX : World) (hgd : o.guard = none) (s x : Operand) (ho : o.op = .call { callee := .builtin .append, args := #[s, x], argTypes := #[26, 26] })
    (B : Nat) (A : List At) (X : At) (v : Value) (hs : a.eval s = v) (hx : a.eval x = .slice (some ⟨wX.heap.size, 0, none⟩) 1 1) (hown : Own wX B v A) (hB : B ≤ wX.heap.size) (hl : A.length ≤ 4000)
    (h : ∀ v' w', Own w' B v' (A ++ [X]) → Below B wX w' → wpList Yba.prog ops Q rest (a.put o.dst v') w') :
    wpList Yba.prog ops Q (o :: rest) a (wX.alloc (.cells #[.string X.s, .string X.l, .string X.v] 36)) := by
  have hblk := heap_alloc_new wX (.cells #[.string X.s, .string X.l, .string X.v] 36)
  have hx1 : Own (wX.alloc (.cells #[.string X.s, .string X.l, .string X.v] 36)) B (.slice (some ⟨wX.heap.size, 0, none⟩) 1 1) [X] :=
    ⟨by simp [aflat, acells], .inr ⟨wX.heap.size, 1, _, rfl, hB, hblk, Nat.le_refl _, by unfold maxLen; omega, by simp, by simp [aflat, acells]⟩⟩
  have h0 : Below B wX (wX.alloc (.cells #[.string X.s, .string X.l, .string X.v] 36)) := (Below.refl B wX).alloc hB _
  refine wpList_append_more _ hgd s x ho B A [X] v _ hs hx (World.ownsRow.alloc hown _) hx1 (Nat.le_trans hB h0.size) (by simp; omega) ?_
  intro v' w' h1 h2
  exact h v' w' h1 (h0.trans h2)
end Go.Proofs.Ybulkbgdk
