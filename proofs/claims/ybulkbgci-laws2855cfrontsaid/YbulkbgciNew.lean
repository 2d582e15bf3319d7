/-
  'newCache'.
-/
import Derived.Test.YbulkbgciCheck
namespace Go.Proofs.Ybulkbgci
open Go.RowKit Go.MuLone
set_option linter.unusedVariables false

theorem info78 : (Yba.prog.info? 78).map (fun i => match i.zero with | some (.agg cs) => (cs.size, (List.range 11).map (fun j => cs[j]?)) | _ => (0, [])) =
    some (32779, [some (.int .i32 0), some (.int .u32 0), some (.int .i64 0), some (.int .i64 0), some (.int .i64 0), some (.map none), some (.pointer none), some (.pointer none), some (.pointer none), some .nilIface, some (.int .i64 0)]) := by kernel_rfl

theorem zero78 : ∃ cs : Array Value, (∀ w, (zeroValue 78).run Yba.prog w = .ok (.agg cs) w) ∧ cs.size = 32779 ∧ cs[0]? = some (.int .i32 0) ∧ cs[6]? = some (.pointer none) ∧ cs[7]? = some (.pointer none) ∧ cs[3]? = some (.int .i64 0) ∧ cs[10]? = some (.int .i64 0) := by
  obtain ⟨i, hi, h⟩ := Option.map_eq_some_iff.1 info78
  split at h
  · rename_i cs hz
    simp only [Prod.mk.injEq] at h
    obtain ⟨h1, h2⟩ := h
    simp [List.range, List.range.loop] at h2
    refine ⟨cs, fun w => ?_, h1, h2.1, h2.2.2.2.2.2.2.1, h2.2.2.2.2.2.2.2.1, h2.2.2.2.1, h2.2.2.2.2.2.2.2.2.2.2⟩
    simp [zeroValue, typeInfo, hi, hz]
  · simp at h

/-- The cells of a new cache. -/
theorem cells78 {cs : Array Value} (hs : cs.size = 32779) (c0 : cs[0]? = some (.int .i32 0)) (c6 : cs[6]? = some (.pointer none)) (c7 : cs[7]? = some (.pointer none)) (c3 : cs[3]? = some (.int .i64 0)) (c10 : cs[10]? = some (.int .i64 0)) (lim : Int) (M : Nat) (A : Array Value) (hA : A = (cs.setIfInBounds 2 (.int .i64 lim)).setIfInBounds 5 (.map (some M))) :
    A[0]? = some (.int .i32 0) ∧ A[2]? = some (.int .i64 lim) ∧ A[3]? = some (.int .i64 0) ∧ A[5]? = some (.map (some M)) ∧ A[6]? = some (.pointer none) ∧ A[7]? = some (.pointer none) ∧ A[10]? = some (.int .i64 0) := by
  subst hA
  refine ⟨?_, ?_, ?_, ?_, ?_, ?_, ?_⟩
  · rw [Array.getElem?_setIfInBounds_ne (by omega), Array.getElem?_setIfInBounds_ne (by omega)]; exact c0
  · rw [Array.getElem?_setIfInBounds_ne (by omega), Array.getElem?_setIfInBounds_self_of_lt (by omega)]
  · rw [Array.getElem?_setIfInBounds_ne (by omega), Array.getElem?_setIfInBounds_ne (by omega)]; exact c3
  · rw [Array.getElem?_setIfInBounds_self_of_lt (by simp; omega)]
  · rw [Array.getElem?_setIfInBounds_ne (by omega), Array.getElem?_setIfInBounds_ne (by omega)]; exact c6
  · rw [Array.getElem?_setIfInBounds_ne (by omega), Array.getElem?_setIfInBounds_ne (by omega)]; exact c7
  · rw [Array.getElem?_setIfInBounds_ne (by omega), Array.getElem?_setIfInBounds_ne (by omega)]; exact c10

theorem LS.made {lim : Int} {w W : World} {A : Array Value} (hA : A[0]? = some (.int .i32 0) ∧ A[2]? = some (.int .i64 lim) ∧ A[3]? = some (.int .i64 0) ∧ A[5]? = some (.map (some w.heap.size)) ∧ A[6]? = some (.pointer none) ∧ A[7]? = some (.pointer none) ∧ A[10]? = some (.int .i64 0))
    (hW : W = (w.alloc (.map #[] 0)).alloc (.cells A 78)) : LS (w.heap.size + 1) w.heap.size lim 0 0 0 [] W ∧ Still w W := by
  have hs : (w.alloc (.map #[] 0)).heap.size = w.heap.size + 1 := by rw [World.size_alloc]
  have hb : W.heap[w.heap.size + 1]? = some (.cells A 78 (0, 0)) := by rw [hW, ← hs]; exact heap_alloc_new _ _
  have hc : ∀ o, W.cell? ⟨w.heap.size + 1, o, none⟩ = A[o]? := fun o => cell_of_row _ _ _ _ _ _ hb
  obtain ⟨a0, a2, a3, a5, a6, a7, a10⟩ := hA
  refine ⟨⟨⟨⟨_, hb⟩, fun e he => by simp at he, by simp, by rw [hc, a10]; rfl, fun e he => by simp at he, fun _ => ⟨by rw [hc, a6], _, by rw [hc, a7]⟩, fun h => absurd rfl h⟩, by rw [hc, a0], by rw [hc, a2], by rw [hc, a3], by rw [hc, a5], ?_, fun x hx => by simp at hx, fun x hx => by simp at hx, fun x hx => by simp at hx, List.Pairwise.nil⟩, ?_⟩
  · have := MapIs.made w
    refine MapIs.blk this ?_
    rw [hW]
    exact Below.heap_alloc _ _ _ (by rw [hs]; omega)
  · rw [hW]; exact ((Grew.refl _ w).alloc _).alloc _

set_option maxRecDepth 1000000 in
set_option maxHeartbeats 1000000 in
theorem new_any (lim : Int) (w : World) :
    Calls Yba.prog 10 #[.int .i64 lim] w fun r w' => r = .returned (.pointer (some ⟨w.heap.size + 1, 0, none⟩)) ∧ LS (w.heap.size + 1) w.heap.size lim 0 0 0 [] w' ∧ Still w w' := by
  obtain ⟨cs, hz, hs, c0, c6, c7, c3, c10⟩ := zero78
  have HA : Hid (∀ A, A = (cs.setIfInBounds 2 (.int .i64 lim)).setIfInBounds 5 (.map (some w.heap.size)) → LS (w.heap.size + 1) w.heap.size lim 0 0 0 [] ((w.alloc (.map #[] 0)).alloc (.cells A 78)) ∧ Still w ((w.alloc (.map #[] 0)).alloc (.cells A 78))) :=
    fun A hA => LS.made (cells78 hs c0 c6 c7 c3 c10 lim w.heap.size A hA) rfl
  have hs1 : ¬ cs.size < 3 := by omega
  have hs2 : ¬ cs.size < 6 := by omega
  clear c0 c6 c7 c3 c10 hs
  have hmm := @run_makeMap Yba.prog
  have hbox : ∀ A w, (Instr.box 78 (.agg A)).run Yba.prog w = .ok (.pointer (some ⟨w.heap.size, 0, none⟩)) (w.alloc (.cells A 78)) := by
    intro A w
    rfl
  go_enter Yba.func10, Yba.ntmps10
  go_wp2
  go_ret
  exact ⟨rfl, HA.out _ rfl⟩
end Go.Proofs.Ybulkbgci
