/-
  (*budget).give: the lock taken, the bytes added, the shares handed out, the lock released.
-/
import Derived.Test.YbulkbgciHand
import Derived.Defers
namespace Go.Proofs.Ybulkbgci
open Go.RowKit Go.Conc Go.MuLone

theorem Hand.bud {B n : Nat} {zs : List Int} {m m' tot : Int} {k : Nat} {f f' : Int} {w w' : World} (h : Hand B n zs m tot k f w)
    (hsz : w'.heap.size = w.heap.size) (ho : ∀ j, j ≠ B + 2 + 2 * n → w'.heap[j]? = w.heap[j]?)
    (h0 : w'.cell? ⟨B + 2 + 2 * n, 0, none⟩ = some (.int .i32 m')) (h2 : w'.cell? ⟨B + 2 + 2 * n, 2, none⟩ = w.cell? ⟨B + 2 + 2 * n, 2, none⟩)
    (h3 : w'.cell? ⟨B + 2 + 2 * n, 3, none⟩ = some (.int .i64 f')) (h4 : w'.cell? ⟨B + 2 + 2 * n, 4, none⟩ = w.cell? ⟨B + 2 + 2 * n, 4, none⟩)
    (hf : ∀ j, w'.frozen? ⟨B + 2 + 2 * n, j, none⟩ = w.frozen? ⟨B + 2 + 2 * n, j, none⟩) : Hand B n zs m' tot k f' w' := by
  have c : ∀ b o, b ≠ B + 2 + 2 * n → w'.cell? ⟨b, o, none⟩ = w.cell? ⟨b, o, none⟩ := fun b o hb => World.cell?_of_block (ho b hb)
  refine ⟨by rw [hsz]; exact h.size, h0, h2.trans h.tot, h3, fun j => (hf j).trans (h.fz j), ?_, ?_, ?_, ?_, ?_, ?_⟩
  · obtain ⟨a, ha, hk⟩ := h.que
    exact ⟨a, h4.trans ha, hk⟩
  · intro i hi; rw [c _ _ (by omega)]; exact h.row i hi
  · intro i hi; rw [c _ _ (by omega)]; exact h.ptr i hi
  · intro i hi; rw [c _ _ (by omega)]; exact h.num i hi
  · intro i hi; rw [c _ _ (by omega)]; exact h.chn i hi
  · intro i hi; rw [ho _ (by omega)]; exact h.chs i hi

theorem Hand.setMu {B n : Nat} {zs : List Int} {m tot : Int} {k : Nat} {f : Int} {w : World} (h : Hand B n zs m tot k f w) (m' : Int) :
    Hand B n zs m' tot k f (w.setCell ⟨B + 2 + 2 * n, 0, none⟩ (.int .i32 m')) :=
  h.bud (by simp [World.setCell]) (fun j hj => setCell_heap hj) (World.cell?_setCell_same _ _ _ h.mu) (setCell_ne (by simp)) ((setCell_ne (by simp)).trans h.fre) (setCell_ne (by simp)) (fun j => World.frozen?_setCell _ _ _ _)

theorem Hand.setFree {B n : Nat} {zs : List Int} {m tot : Int} {k : Nat} {f : Int} {w : World} (h : Hand B n zs m tot k f w) (f' : Int) :
    Hand B n zs m tot k f' (w.setCell ⟨B + 2 + 2 * n, 3, none⟩ (.int .i64 f')) :=
  h.bud (by simp [World.setCell]) (fun j hj => setCell_heap hj) ((setCell_ne (by simp)).trans h.mu) (setCell_ne (by simp)) (World.cell?_setCell_same _ _ _ h.fre) (setCell_ne (by simp)) (fun j => World.frozen?_setCell _ _ _ _)

set_option maxRecDepth 100000 in
set_option maxHeartbeats 2000000 in
theorem give_any (B n : Nat) (zs : List Int) (tot f x : Int) (w : World) (hn : n ≤ 1024) (h0 : Hand B n zs 0 tot 0 f w) :
    Calls Yba.prog 6 #[.pointer (some ⟨B + 2 + 2 * n, 0, none⟩), .int .i64 x] w fun e w' => e = .returned (.tuple #[]) ∧
      ∃ k, k ≤ n ∧ Hand B n zs 0 tot k (frAt zs (wrap64 (f + x)) k) w' ∧ (∀ j, j < k → zs.getD j 0 ≤ frAt zs (wrap64 (f + x)) j) ∧ ¬ (k < n ∧ zs.getD k 0 ≤ frAt zs (wrap64 (f + x)) k) ∧ Below B w w' := by
  have cmu := h0.mu
  have cfz := h0.fz 0
  have cfr := h0.fre
  have cfz3 := h0.fz 3
  have H1 : Hid (Hand B n zs 1 tot 0 (wrap64 (f + x)) ((w.setCell ⟨B + 2 + 2 * n, 0, none⟩ (.int .i32 1)).setCell ⟨B + 2 + 2 * n, 3, none⟩ (.int .i64 (wrap64 (f + x))))) := (h0.setMu 1).setFree _
  clear h0
  go_enter_defers Yba.func6, Yba.ntmps6
  go_wp2_with (first
    | (go_at_call 18; refine (lock_free Yba.muLib ⟨B + 2 + 2 * n, 0, none⟩ _ cmu cfz).mono ?_; rintro e w' ⟨rfl, rfl⟩))
  refine (hand_round B n zs 1 tot (wrap64 (f + x)) _ hn H1.out).mono ?_
  rintro e w1 ⟨rfl, k, hk, hH, hpre, hstop, hbel⟩
  have HE : Hid (Hand B n zs 1 tot k (frAt zs (wrap64 (f + x)) k) w1 ∧ (∀ j, j < k → zs.getD j 0 ≤ frAt zs (wrap64 (f + x)) j) ∧ ¬ (k < n ∧ zs.getD k 0 ≤ frAt zs (wrap64 (f + x)) k) ∧ Below B _ w1) := ⟨hH, hpre, hstop, hbel⟩
  clear hH hpre hstop hbel
  go_wp2
  refine leaves_cons (f := 9) (args := #[.pointer (some ⟨B + 2 + 2 * n, 0, none⟩)]) (by simp) (by simp [go_sem]) ?_
  refine (unlock_deferred Yba.muLib ⟨B + 2 + 2 * n, 0, none⟩ .returning _ HE.out.1.mu (HE.out.1.fz 0)).mono ?_
  rintro e u' w'' ⟨rfl, rfl, rfl⟩
  refine ⟨_, results_none rfl _ _ _, rfl, k, hk, HE.out.1.setMu 0, HE.out.2.1, HE.out.2.2.1, ?_⟩
  refine Below.setCell ?_ (by simp; omega) _
  exact (((Below.refl B w).setCell (by simp; omega) _).setCell (by simp; omega) _).trans HE.out.2.2.2
end Go.Proofs.Ybulkbgci
