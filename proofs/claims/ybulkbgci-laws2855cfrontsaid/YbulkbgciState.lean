/-
  The state of the law's run: the cache, the model's slice, the old memory; and how each step turns it.
-/
import Derived.Test.YbulkbgciNew
namespace Go.Proofs.Ybulkbgci
open Go.RowKit Go.MuLone
set_option linter.unusedVariables false

/-- The cache stands while other blocks are written. -/
theorem LS.other {C M : Nat} {lim mu sz : Int} {n : Nat} {L : List Ent} {w w' : World} {T : Nat → Nat → Prop} (h : LS C M lim mu sz n L w) (g : Grew T w w') (hC : ∀ o, ¬ T C o) (hM : ∀ o, ¬ T M o) (he : ∀ x ∈ L, ∀ o, ¬ T x.e o) (hp : ∀ x ∈ L, ∀ o, ¬ T x.p o) : LS C M lim mu sz n L w' := by
  have hCl := h.ring.rC.lt
  have c : ∀ o, w'.cell? ⟨C, o, none⟩ = w.cell? ⟨C, o, none⟩ := fun o => g.cell C o hCl (hC o)
  refine ⟨h.ring.grew g ?_, (c 0).trans h.mu, (c 2).trans h.lim, (c 3).trans h.sz, (c 5).trans h.prt, h.mp.blk (g.blk M h.mp.lt hM), ?_, h.pC, h.kok, h.keys⟩
  · intro b o hb
    rcases hb with ⟨rfl, _⟩ | ⟨hb, _⟩
    · exact hC o
    · obtain ⟨y, hy, rfl⟩ := List.mem_map.1 hb
      exact he y hy o
  · intro x hx
    have hpt := h.ent x hx
    exact hpt.keep (g.cell _ _ (lt_cell hpt.val) (he x hx 3)) (fun o => g.cell _ _ (lt_cell hpt.p0) (hp x hx o))

theorem LS.still {C M : Nat} {lim mu sz : Int} {n : Nat} {L : List Ent} {w w' : World} (h : LS C M lim mu sz n L w) (g : Still w w') : LS C M lim mu sz n L w' :=
  h.other g (fun _ h => h) (fun _ h => h) (fun _ _ _ h => h) (fun _ _ _ h => h)

theorem row_ne {w : World} {a b : Nat} {ta tb : TypeId} (ha : Row w a ta) (hb : Row w b tb) (h : ta ≠ tb) : a ≠ b := by
  intro e
  subst e
  obtain ⟨x, hx⟩ := ha
  obtain ⟨y, hy⟩ := hb
  rw [hx] at hy
  cases hy
  exact h rfl

theorem LS.notTB {C M : Nat} {lim mu sz : Int} {n : Nat} {L : List Ent} {w : World} (h : LS C M lim mu sz n L w) {g o : Nat} {t : TypeId} (hg : Row w g t) (h1 : t ≠ 78) (h2 : t ≠ 69) : ¬ TB C M (L.map Ent.e) g o := by
  intro ht
  rcases ht with h3 | h3 | h3
  · exact row_ne hg h.ring.rC h1 h3
  · exact h.mp.notRow hg h3.symm
  · exact row_ne hg (h.ring.rows g h3) h2 rfl

/-- The state of the law's run. -/
structure St (w : World) (C M : Nat) (lim : Int) (n : Nat) (L : List Ent) (m : Value) (wr : World) : Prop where
  ls : LS C M lim 0 (sm L) n L wr
  own : wr.ownsRow w.heap.size 56 5 m L.length (flat L)
  bel : Below w.heap.size w wr
  hC : w.heap.size ≤ C
  hM : w.heap.size ≤ M
  he : ∀ x ∈ L, w.heap.size ≤ x.e
  len : L.length ≤ n

theorem Still.below {w wr wr' : World} (hb : Below w.heap.size w wr) (g : Still wr wr') : Below w.heap.size w wr' := hb.trans (Grew.below g (fun _ _ h => h.elim) hb.size)

theorem St.still {w wr wr' : World} {C M : Nat} {lim : Int} {n : Nat} {L : List Ent} {m : Value} (h : St w C M lim n L m wr) (g : Still wr wr') : St w C M lim n L m wr' :=
  ⟨h.ls.still g, ownsRow_grew h.own g (fun _ _ _ h => h), Still.below h.bel g, h.hC, h.hM, h.he, h.len⟩

theorem St.tb {w wr wr' : World} {C M : Nat} {lim : Int} {n : Nat} {L : List Ent} {m : Value} (h : St w C M lim n L m wr) (g : Grew (TB C M (L.map Ent.e)) wr wr') : wr'.ownsRow w.heap.size 56 5 m L.length (flat L) ∧ Below w.heap.size w wr' := by
  refine ⟨ownsRow_grew h.own g (fun b o hr => h.ls.notTB hr (by decide) (by decide)), h.bel.trans (g.below ?_ h.bel.size)⟩
  intro b o ht
  rcases ht with rfl | rfl | ht
  · exact h.hC
  · exact h.hM
  · obtain ⟨y, hy, rfl⟩ := List.mem_map.1 ht
    exact h.he y hy

/-- 'get' at a key that is not held, and 'put' at one that is: the cache stands. -/
theorem St.same {w wr wr' : World} {C M : Nat} {lim : Int} {n : Nat} {L : List Ent} {m : Value} (h : St w C M lim n L m wr) (g : Grew (TC C (L.map Ent.e)) wr wr') (hl : LS C M lim 0 (sm L) n L wr') : St w C M lim n L m wr' := by
  have := h.tb (g.mono (fun _ _ _ ht => TB_of_TC ht))
  exact ⟨hl, this.1, this.2, h.hC, h.hM, h.he, h.len⟩

theorem sm_perm {L L' : List Ent} (h : L.Perm L') : sm L = sm L' := by
  induction h with
  | nil => rfl
  | cons x _ ih => simp only [sm, ih]
  | swap x y l => simp only [sm]; omega
  | trans _ _ h1 h2 => exact h1.trans h2

/-- 'get' at a key that is held, then the model's check: the part has gone to the front of both. -/
theorem St.got {w wr w1 w2 : World} {C M : Nat} {lim : Int} {n : Nat} {A D : List Ent} {x : Ent} {m : Value} (h : St w C M lim n (A ++ x :: D) m wr) (g1 : Grew (TC C ((A ++ x :: D).map Ent.e)) wr w1) (hl : LS C M lim 0 (sm (A ++ x :: D)) n (x :: (A ++ D)) w1)
    (ho : w2.ownsRow w.heap.size 56 5 m (A ++ x :: D).length (flat (x :: (A ++ D)))) (g2 : Grew (fun b _ => m.ownBlock = some b) w1 w2) : St w C M lim n (x :: (A ++ D)) m w2 := by
  have h1 := h.tb (g1.mono (fun _ _ _ ht => TB_of_TC ht))
  have hp : (A ++ x :: D).Perm (x :: (A ++ D)) := List.perm_middle
  have hlen : (x :: (A ++ D)).length = (A ++ x :: D).length := hp.length_eq.symm
  have hsm : sm (A ++ x :: D) = sm (x :: (A ++ D)) := sm_perm hp
  rcases h1.1.2 with ⟨_, h0⟩ | ⟨g, cap, cur, rfl, hBg, hg, hncap, hcapm, hcs, htk⟩
  · simp at h0
  have hrow : Row w1 g 56 := ⟨cur, hg⟩
  have hT : ∀ (b o : Nat), ¬ (b = g) → ¬ ((Value.slice (some ⟨g, 0, none⟩) (A ++ x :: D).length cap).ownBlock = some b) := by
    intro b o hne ht
    simp [Value.ownBlock] at ht
    exact hne ht.symm
  refine ⟨?_, by rw [hlen]; exact ho, h1.2.trans (g2.below ?_ h1.2.size), h.hC, h.hM, ?_, by rw [hlen]; exact h.len⟩
  · rw [← hsm]
    refine hl.other g2 (fun o => hT C o (fun e => row_ne hrow hl.ring.rC (by decide) e.symm)) (fun o => hT M o (hl.mp.notRow hrow)) (fun y hy o => hT y.e o (fun e => row_ne hrow (hl.ring.rows y.e (List.mem_map.2 ⟨y, hy, rfl⟩)) (by decide) e.symm)) (fun y hy o => hT y.p o ?_)
    intro e
    have hy3 := (hl.ent y hy).p3
    rw [e] at hy3
    have h3 : w1.cell? ⟨g, 3, none⟩ = (flat (A ++ x :: D))[3]? := h1.1.cellAt 3 (by simp; omega)
    rw [h3] at hy3
    cases A with
    | nil => simp [flat, item] at hy3
    | cons a A' => simp [flat, item] at hy3
  · intro b o ht
    simp [Value.ownBlock] at ht
    omega
  · intro y hy
    exact h.he y (hp.mem_iff.2 hy)

/-- How many are kept is one number. -/
theorem Kept.unique {lim : Int} {L : List Ent} {j j' : Nat} (h : Kept lim L j) (h' : Kept lim L j') (e : sm (L.take j) ≤ lim ∨ j = 1) (e' : sm (L.take j') ≤ lim ∨ j' = 1) : j = j' := by
  have a := h.lo; have a' := h'.lo; have b := h.hi; have b' := h'.hi
  rcases Nat.lt_trichotomy j j' with h1 | h1 | h1
  · have := h.more j' h1 b'
    rcases e' with e' | e' <;> omega
  · exact h1
  · have := h'.more j h1 b
    rcases e with e | e <;> omega
end Go.Proofs.Ybulkbgci
