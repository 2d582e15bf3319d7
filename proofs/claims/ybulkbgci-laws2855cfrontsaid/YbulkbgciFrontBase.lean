/-
  The law LawS2855CFront: what its walk leans on.
-/
import Derived.Test.YbulkbgciOrder
import Derived.Test.YbulkbgciFill
namespace Go.Proofs.Ybulkbgci
open Go.RowKit Go.MuLone
set_option linter.unusedVariables false

theorem own_grew {w w' : World} {B : Nat} {t : TypeId} {sz : Nat} {m : Value} {n : Nat} {xs : List Value} {T : Nat → Nat → Prop} (h : w.ownsRow B t sz m n xs) (hg : Grew T w w') (hT : ∀ g o, Row w g t → ¬ T g o) : w'.ownsRow B t sz m n xs := by
  obtain ⟨h1, h2⟩ := h
  refine ⟨h1, ?_⟩
  rcases h2 with h2 | ⟨g, cap, cur, rfl, hgB, hh, r⟩
  · exact .inl h2
  · exact .inr ⟨g, cap, cur, rfl, hgB, (hg.blk g (Array.getElem?_eq_some_iff.1 hh).1 (fun o => hT g o ⟨cur, hh⟩)).trans hh, r⟩
theorem own_still {w w' : World} {B : Nat} {t : TypeId} {sz : Nat} {m : Value} {n : Nat} {xs : List Value} (h : w.ownsRow B t sz m n xs) (hg : Still w w') : w'.ownsRow B t sz m n xs := own_grew h hg (fun _ _ _ h => h)
theorem own_base {w : World} {B : Nat} {t : TypeId} {sz : Nat} {m : Value} {n : Nat} {xs : List Value} (h : w.ownsRow B t sz m n xs) : w.ownsRow 0 t sz m n xs := by
  obtain ⟨h1, h2⟩ := h
  refine ⟨h1, ?_⟩
  rcases h2 with h2 | ⟨g, cap, cur, rfl, hgB, hh, r⟩
  · exact .inl h2
  · exact .inr ⟨g, cap, cur, rfl, Nat.zero_le _, hh, r⟩
theorem own_slice {w : World} {B : Nat} {t : TypeId} {sz : Nat} {m : Value} {n : Nat} {xs : List Value} (h : w.ownsRow B t sz m n xs) : ∃ a c, m = .slice a n c ∧ (0 < n → ∃ g, a = some ⟨g, 0, none⟩) := by
  rcases h.2 with ⟨rfl, rfl⟩ | ⟨g, cap, cur, rfl, _⟩
  · exact ⟨_, _, rfl, fun h => absurd h (by omega)⟩
  · exact ⟨_, _, rfl, fun _ => ⟨g, rfl⟩⟩

theorem neq51 (a b c : Int) (w : World) : (binOp .neq 51 (.agg #[.int .u64 a, .int .i64 b, .int .u8 c]) (.agg #[.int .u64 a, .int .i64 b, .int .u8 c])).run Yba.prog w = .ok (.bool false) w := by
  rw [run_neq_struct, run_equalIn_struct w 9999 51 _ _ (by unfold Program.fieldsOf; rw [Yba.underlying51]) (by kernel_rfl)]
  unfold Program.fieldsOf
  rw [Yba.underlying51]
  simp [Op.eqFields, part, go_sem]

/-- The keys' slice reads as the keys of L. -/
def Keys (w : World) (v : Value) (L : List Ent) : Prop := w.ownsRow 0 51 3 v L.length (kflat L)
theorem Keys.still {w w' : World} {v : Value} {L : List Ent} (h : Keys w v L) (g : Still w w') : Keys w' v L := own_still h g
theorem Keys.at {w : World} {g N cap : Nat} {A D : List Ent} {x : Ent} {L : List Ent} (h : Keys w (.slice (some ⟨g, 0, none⟩) N cap) L) (hL : L = A ++ x :: D) :
    w.cell? ⟨g, A.length * 3, none⟩ = some (.int .u64 x.k.1) ∧ w.cell? ⟨g, A.length * 3 + 1, none⟩ = some (.int .i64 x.k.2.1) ∧ w.cell? ⟨g, A.length * 3 + 2, none⟩ = some (.int .u8 x.k.2.2) := by
  subst hL
  have hN : N = (A ++ x :: D).length := by
    rcases h.2 with ⟨h1, h2⟩ | ⟨g', c', cur, h1, _⟩
    · cases h1
    · cases h1; rfl
  subst hN
  exact key_cells h

/-- The state when the law compares: wr reads; bx the key's box. -/
structure Fin (w wr : World) (N bx : Nat) (Lb La : List Ent) (m bef aft : Value) (ko ka kk : Int) : Prop where
  bel : Below w.heap.size w wr
  own : wr.ownsRow w.heap.size 56 5 m Lb.length (flat Lb)
  kb : Keys wr bef Lb
  kf : Keys wr aft La
  box : Box wr bx ko ka kk
  lb : Lb.length = N
  la : La.length = N
theorem Fin.still {w wr wr' : World} {N bx : Nat} {Lb La : List Ent} {m bef aft : Value} {ko ka kk : Int} (h : Fin w wr N bx Lb La m bef aft ko ka kk) (g : Still wr wr') : Fin w wr' N bx Lb La m bef aft ko ka kk :=
  ⟨Still.below h.bel g, own_still h.own g, h.kb.still g, h.kf.still g, h.box.keep g (fun _ h => h), h.lb, h.la⟩
end Go.Proofs.Ybulkbgci
