/-
  The law's 'check' of a result of 'get' against the model.
-/
import Derived.Test.YbulkbgciModel
namespace Go.Proofs.Ybulkbgci
open Go.RowKit Go.MuLone
set_option linter.unusedVariables false

/-- Nothing that was there has turned. -/
abbrev Still (w w' : World) : Prop := Grew (fun _ _ => False) w w'

theorem ownsRow_blk {w w' : World} {B : Nat} {m : Value} {n : Nat} {xs : List Value} (h : w.ownsRow B 56 5 m n xs) (hb : ∀ g, m.ownBlock = some g → w'.heap[g]? = w.heap[g]?) : w'.ownsRow B 56 5 m n xs := by
  obtain ⟨h1, h2⟩ := h
  refine ⟨h1, ?_⟩
  rcases h2 with h2 | ⟨g, cap, cur, rfl, hg, hh, r⟩
  · exact .inl h2
  · exact .inr ⟨g, cap, cur, rfl, hg, (hb g rfl).trans hh, r⟩
theorem ownsRow_lt {w : World} {B : Nat} {m : Value} {n : Nat} {xs : List Value} (h : w.ownsRow B 56 5 m n xs) {g : Nat} (hg : m.ownBlock = some g) : g < w.heap.size ∧ Row w g 56 := by
  rcases h.2 with ⟨rfl, _⟩ | ⟨g', cap, cur, rfl, _, hh, _⟩
  · simp [Value.ownBlock] at hg
  · simp [Value.ownBlock] at hg
    subst hg
    exact ⟨(Array.getElem?_eq_some_iff.1 hh).1, cur, hh⟩
theorem ownsRow_grew {w w' : World} {B : Nat} {m : Value} {n : Nat} {xs : List Value} {T : Nat → Nat → Prop} (h : w.ownsRow B 56 5 m n xs) (hg : Grew T w w') (hT : ∀ g o, Row w g 56 → ¬ T g o) : w'.ownsRow B 56 5 m n xs :=
  ownsRow_blk h (fun g hgg => hg.blk g (ownsRow_lt h hgg).1 (fun o => hT g o (ownsRow_lt h hgg).2))

theorem still_find {w w' : World} {o : Obj} {q : Nat} (h : w' = (w.alloc o).drewN q) : Still w w' := by rw [h]; exact ((Grew.refl _ w).alloc _).drewN q

set_option maxRecDepth 100000 in
set_option maxHeartbeats 1000000 in
theorem check_miss (B : Nat) (m : Value) (L : List Ent) (ko ka kk : Int) (w : World) (hm : w.ownsRow B 56 5 m L.length (flat L)) (hA : ∀ y ∈ L, y.k ≠ (ko, ka, kk)) (hl : L.length ≤ 5000) :
    Calls Yba.prog 15 #[m, .agg #[.int .u64 ko, .int .i64 ka, .int .u8 kk], .nilIface, .bool false] w fun r w' => r = .returned (.bool true) ∧ Still w w' := by
  go_enter Yba.func15, Yba.ntmps15
  go_wp2_with fail
  refine (find_miss B m L ko ka kk _ (hm.alloc _) hA hl).mono ?_
  rintro r w1 ⟨rfl, q, hw⟩
  have HS : Hid (Still w w1) := ((Grew.refl _ w).alloc _).trans (still_find hw)
  clear hw
  go_wp2
  go_ret
  exact ⟨rfl, HS.out⟩

theorem set5_arr (arr : Array Value) (v0 v1 v2 v3 v4 : Value) (hs : 5 ≤ arr.size) :
    ((((arr.setIfInBounds 0 v0).setIfInBounds 1 v1).setIfInBounds 2 v2).setIfInBounds 3 v3).setIfInBounds 4 v4 = ([v0, v1, v2, v3, v4] ++ arr.toList.drop 5).toArray := by
  obtain ⟨l⟩ := arr
  simp only [List.size_toArray] at hs
  match l, hs with
  | a :: b :: c :: d :: e :: r, _ => simp

/-- Five cells at a row's head, written one after the other. -/
theorem set5 {W : World} {g : Nat} {arr : Array Value} (v0 v1 v2 v3 v4 : Value) (h : W.heap[g]? = some (.cells arr 56 (0, 0))) (hs : 5 ≤ arr.size) :
    (((((W.setCell ⟨g, 0, none⟩ v0).setCell ⟨g, 1, none⟩ v1).setCell ⟨g, 2, none⟩ v2).setCell ⟨g, 3, none⟩ v3).setCell ⟨g, 4, none⟩ v4).heap[g]? = some (.cells ([v0, v1, v2, v3, v4] ++ arr.toList.drop 5).toArray 56 (0, 0)) := by
  rw [← set5_arr arr v0 v1 v2 v3 v4 hs]
  exact heap_setCell_same _ g 4 _ 56 v4 (heap_setCell_same _ g 3 _ 56 v3 (heap_setCell_same _ g 2 _ 56 v2 (heap_setCell_same _ g 1 _ 56 v1 (heap_setCell_same W g 0 arr 56 v0 h))))

theorem moved_list {cur : List Value} {A D : List Ent} {x : Ent} {N : Nat} (hN : (A ++ x :: D).length = N) (h : cur.take (N * 5) = flat (A ++ x :: D)) :
    ((item x ++ (cur.take (A.length * 5) ++ cur.drop (5 + A.length * 5)))).take (N * 5) = flat (x :: (A ++ D)) := by
  have hN' : N = A.length + (1 + D.length) := by rw [← hN]; simp; omega
  have h1 : cur.take (A.length * 5) = flat A := by
    have : (cur.take (N * 5)).take (A.length * 5) = cur.take (A.length * 5) := by rw [List.take_take, Nat.min_eq_left (by omega)]
    rw [← this, h, flat_append, List.take_append_of_le_length (by rw [flat_length]; exact Nat.le_refl _), List.take_of_length_le (by rw [flat_length]; exact Nat.le_refl _)]
  have h2 : (cur.drop (5 + A.length * 5)).take (D.length * 5) = flat D := by
    have e1 : (cur.take (N * 5)).drop (5 + A.length * 5) = (cur.drop (5 + A.length * 5)).take (D.length * 5) := by
      rw [List.drop_take]
      congr 1
      omega
    have e2 : flat (A ++ x :: D) = (flat A ++ item x) ++ flat D := by simp [flat]
    rw [← e1, h, e2, List.drop_append_of_le_length (by simp [flat_length, item]; omega), List.drop_of_length_le (by simp [flat_length, item]; omega), List.nil_append]
  have hlen : (item x ++ flat A).length = 5 + A.length * 5 := by simp [flat_length, item]; omega
  rw [h1, ← List.append_assoc, List.take_append, List.take_of_length_le (by rw [hlen]; omega), hlen, show N * 5 - (5 + A.length * 5) = D.length * 5 by omega, h2]
  simp [flat]

theorem moved_row {B g cap N : Nat} {cur arr : Array Value} {A D : List Ent} {x : Ent} {ko ka kk : Int} {w W F : World} (hBg : B ≤ g) (hN : (A ++ x :: D).length = N) (hx : x.k = (ko, ka, kk)) (h : cur.toList.take (N * 5) = flat (A ++ x :: D)) (hc : cur.size = cap * 5) (hn : N ≤ cap) (hcm : cap ≤ maxLen)
    (hW : W.heap[g]? = some (.cells arr 56 (0, 0))) (harr : arr.toList.drop 5 = cur.toList.take (A.length * 5) ++ cur.toList.drop (5 + A.length * 5)) (hs : 5 ≤ arr.size) (hG : Grew (fun b _ => some g = some b) w W)
    (hF : F = (((((W.setCell ⟨g, 0, none⟩ (.int .u64 ko)).setCell ⟨g, 1, none⟩ (.int .i64 ka)).setCell ⟨g, 2, none⟩ (.int .u8 kk)).setCell ⟨g, 3, none⟩ (.int .i64 x.v)).setCell ⟨g, 4, none⟩ (.int .i64 x.s))) :
    F.ownsRow B 56 5 (.slice (some ⟨g, 0, none⟩) N cap) N (flat (x :: (A ++ D))) ∧ Grew (fun b _ => some g = some b) w F := by
  have hl : (x :: (A ++ D)).length = N := by rw [← hN]; simp; omega
  have hjl : A.length + 1 ≤ N := by rw [← hN]; simp
  have hFh : F.heap[g]? = some (.cells (item x ++ (cur.toList.take (A.length * 5) ++ cur.toList.drop (5 + A.length * 5))).toArray 56 (0, 0)) := by
    rw [hF, set5 _ _ _ _ _ hW hs, harr]
    simp [item, hx]
  refine ⟨⟨by rw [flat_length, hl], .inr ⟨g, cap, _, rfl, hBg, hFh, hn, hcm, ?_, ?_⟩⟩, ?_⟩
  · simp [item]; omega
  · exact moved_list hN h
  · rw [hF]
    exact ((((hG.setCell rfl _).setCell rfl _).setCell rfl _).setCell rfl _).setCell rfl _

theorem copy_none (a b : Option Addr) (c1 c2 : Nat) (ty : TypeId) (W : World) : (Builtin.copy_ #[45, 45] ty #[.slice a 0 c1, .slice b 0 c2]).run Yba.prog W = .ok (goInt 0) W := by
  have hs56 := Yba.sizeOf56 W
  have hl : ∀ x : Addr, (loadCells x 0).run Yba.prog W = .ok #[] W := fun x => run_loadCells_list (P := Yba.prog) W x [] (fun j v hj => by simp at hj)
  cases a <;> cases b <;> simp [Builtin.copy_, run_underlying Yba.underlying45, Builtin.lenOf, Builtin.firstCells, hs56, hl, storeCells]

theorem one_item : ∀ (L : List Ent), ∀ v ∈ flat L, v.oneCell' = true := by
  intro L v hv
  simp only [flat, List.mem_flatMap] at hv
  obtain ⟨x, _, hx⟩ := hv
  simp only [item, List.mem_cons, List.not_mem_nil, or_false] at hx
  rcases hx with rfl | rfl | rfl | rfl | rfl <;> rfl

set_option maxRecDepth 100000 in
set_option maxHeartbeats 2000000 in
theorem check_hit (B N : Nat) (m : Value) (A D : List Ent) (x : Ent) (ko ka kk : Int) (w : World) (hm : w.ownsRow B 56 5 m N (flat (A ++ x :: D))) (HN : Hid ((A ++ x :: D).length = N)) (hA : ∀ y ∈ A, y.k ≠ (ko, ka, kk)) (hx : x.k = (ko, ka, kk)) (hl : N ≤ 5000) :
    Calls Yba.prog 15 #[m, .agg #[.int .u64 ko, .int .i64 ka, .int .u8 kk], .iface 3 (.int .i64 x.v), .bool true] w fun r w' => r = .returned (.bool true) ∧
      w'.ownsRow B 56 5 m N (flat (x :: (A ++ D))) ∧ Grew (fun b _ => m.ownBlock = some b) w w' := by
  have hta := assert3
  go_enter Yba.func15, Yba.ntmps15
  go_wp2_with fail
  refine (find_hit B m A D x ko ka kk _ (by rw [HN.out]; exact hm.alloc _) hA hx (by rw [HN.out]; exact hl)).mono ?_
  rintro r w1 ⟨rfl, q, hw⟩
  have hS : Still w w1 := ((Grew.refl _ w).alloc _).trans (still_find hw)
  have hm1 : w1.ownsRow B 56 5 m N (flat (A ++ x :: D)) := ownsRow_grew hm hS (fun _ _ _ h => h)
  have hN : A.length < N := by rw [← HN.out]; simp
  clear hw hm
  rcases hm1.2 with ⟨_, h0⟩ | ⟨g, cap, cur, rfl, hBg, hg, hncap, hcapm, hcs, htk⟩
  · omega
  obtain ⟨c0, c1, c2, c3, c4⟩ := item_cells (A := A) (x := x) (D := D) (by rw [HN.out]; exact hm1)
  have HS : Hid (Still w w1) := hS
  have HG : Hid (w1.heap[g]? = some (.cells cur 56 (0, 0)) ∧ cur.size = cap * 5 ∧ cur.toList.take (N * 5) = flat (A ++ x :: D)) := ⟨hg, hcs, htk⟩
  clear hm1 hS hg hcs htk hA
  generalize hj : A.length = j at *
  have HJ : Hid (A.length = j) := hj
  clear hj
  have i0 : (j : Int) < (N : Int) := by omega
  have hcap63 : (cap : Int) ≤ 9223372036854775807 := by unfold maxLen at hcapm; omega
  have hN1 : 1 ≤ N := by omega
  have hgl : g < w1.heap.size := (Array.getElem?_eq_some_iff.1 HG.out.1).1
  have hcur5 : 5 + j * 5 ≤ cur.size := by have := HG.out.2.1; omega
  have HX : Hid (x.k = (ko, ka, kk)) := hx
  have H2 : Hid ((w1.alloc (.cells #[.int .u64 ko, .int .i64 ka, .int .u8 kk, .int .i64 x.v, .int .i64 x.s] 56)).heap[g]? = some (.cells cur 56 (0, 0))) := (Below.heap_alloc w1 _ g hgl).trans HG.out.1
  have hwb : (w1.alloc (.cells #[.int .u64 ko, .int .i64 ka, .int .u8 kk, .int .i64 x.v, .int .i64 x.s] 56)).heap[w1.heap.size]? = some (.cells #[.int .u64 ko, .int .i64 ka, .int .u8 kk, .int .i64 x.v, .int .i64 x.s] 56 (0, 0)) := heap_alloc_new _ _
  have HS2 : Hid (Still w (w1.alloc (.cells #[.int .u64 ko, .int .i64 ka, .int .u8 kk, .int .i64 x.v, .int .i64 x.s] 56))) := HS.out.alloc _
  by_cases hj0 : j = 0
  · subst hj0
    by_cases hc1 : cap = 1
    all_goals
      try subst hc1
      have hcp := copy_none
      go_wp2
      generalize w1.alloc (.cells #[.int .u64 ko, .int .i64 ka, .int .u8 kk, .int .i64 x.v, .int .i64 x.s] 56) = W2 at *
      have t0 : W2.cell? ⟨w1.heap.size, 0, none⟩ = some (.int .u64 ko) := by rw [cell_of_row _ _ _ _ _ _ hwb]; rfl
      have t1 : W2.cell? ⟨w1.heap.size, 1, none⟩ = some (.int .i64 ka) := by rw [cell_of_row _ _ _ _ _ _ hwb]; rfl
      have t2 : W2.cell? ⟨w1.heap.size, 2, none⟩ = some (.int .u8 kk) := by rw [cell_of_row _ _ _ _ _ _ hwb]; rfl
      have t3 : W2.cell? ⟨w1.heap.size, 3, none⟩ = some (.int .i64 x.v) := by rw [cell_of_row _ _ _ _ _ _ hwb]; rfl
      have t4 : W2.cell? ⟨w1.heap.size, 4, none⟩ = some (.int .i64 x.s) := by rw [cell_of_row _ _ _ _ _ _ hwb]; rfl
      have d0 : W2.cell? ⟨g, 0, none⟩ = some cur[0] := by rw [cell_of_row _ _ _ _ _ _ H2.out, Array.getElem?_eq_getElem]
      have d1 : W2.cell? ⟨g, 1, none⟩ = some cur[1] := by rw [cell_of_row _ _ _ _ _ _ H2.out, Array.getElem?_eq_getElem]
      have d2 : W2.cell? ⟨g, 2, none⟩ = some cur[2] := by rw [cell_of_row _ _ _ _ _ _ H2.out, Array.getElem?_eq_getElem]
      have d3 : W2.cell? ⟨g, 3, none⟩ = some cur[3] := by rw [cell_of_row _ _ _ _ _ _ H2.out, Array.getElem?_eq_getElem]
      have d4 : W2.cell? ⟨g, 4, none⟩ = some cur[4] := by rw [cell_of_row _ _ _ _ _ _ H2.out, Array.getElem?_eq_getElem]
      have fg : ∀ o, W2.frozen? ⟨g, o, none⟩ = false := fun o => frozen_of_row _ _ _ _ _ H2.out
      have hne1 : ¬ g = w1.heap.size := by omega
      have hne2 : ¬ w1.heap.size = g := by omega
      clear c0 c1 c2 c3 c4 hwb
      have hF := fun F hF => moved_row (B := B) (w := w) (W := W2) (F := F) (ko := ko) (ka := ka) (kk := kk) hBg HN.out HX.out HG.out.2.2 HG.out.2.1 hncap hcapm H2.out (by rw [HJ.out]; simp) (by omega) (HS2.out.mono (fun _ _ _ h => h.elim)) hF
      have HF : Hid (∀ F, F = (((((W2.setCell ⟨g, 0, none⟩ (.int .u64 ko)).setCell ⟨g, 1, none⟩ (.int .i64 ka)).setCell ⟨g, 2, none⟩ (.int .u8 kk)).setCell ⟨g, 3, none⟩ (.int .i64 x.v)).setCell ⟨g, 4, none⟩ (.int .i64 x.s)) → F.ownsRow B 56 5 _ N (flat (x :: (A ++ D))) ∧ Grew (fun b _ => some g = some b) w F) := hF
      clear hF
      go_region
      go_wp2
      go_ret
      have h1 := HF.out _ rfl
      exact ⟨rfl, h1.1.drew, h1.2.drew⟩
  · have hcap2 : ¬ cap = 1 := by omega
    have hcp : ∀ c1 c2 ty, (Builtin.copy_ #[45, 45] ty #[.slice (some ⟨g, 5, none⟩) j c1, .slice (some ⟨g, 0, none⟩) j c2]).run Yba.prog (w1.alloc (.cells #[.int .u64 ko, .int .i64 ka, .int .u8 kk, .int .i64 x.v, .int .i64 x.s] 56)).drew =
        .ok (goInt j) ((w1.alloc (.cells #[.int .u64 ko, .int .i64 ka, .int .u8 kk, .int .i64 x.v, .int .i64 x.s] 56)).drew.setRow g (cur.toList.take 5 ++ cur.toList.take (j * 5) ++ cur.toList.drop (5 + j * 5)).toArray) := by
      intro c1 c2 ty
      refine run_copy_up _ ty g j c1 c2 cur H2.out hcur5 ?_
      intro v hv
      refine one_item (A ++ x :: D) v ?_
      rw [← HG.out.2.2]
      have : cur.toList.take (j * 5) = (cur.toList.take (N * 5)).take (j * 5) := by rw [List.take_take, Nat.min_eq_left (by omega)]
      rw [this] at hv
      exact List.mem_of_mem_take hv
    have g3 : ((w1.alloc (.cells #[.int .u64 ko, .int .i64 ka, .int .u8 kk, .int .i64 x.v, .int .i64 x.s] 56)).drew.setRow g (cur.toList.take 5 ++ cur.toList.take (j * 5) ++ cur.toList.drop (5 + j * 5)).toArray).heap[g]? = some (.cells (cur.toList.take 5 ++ cur.toList.take (j * 5) ++ cur.toList.drop (5 + j * 5)).toArray 56 (0, 0)) := setRow_heap _ g cur _ 56 (0, 0) H2.out
    have hb3 : ((w1.alloc (.cells #[.int .u64 ko, .int .i64 ka, .int .u8 kk, .int .i64 x.v, .int .i64 x.s] 56)).drew.setRow g (cur.toList.take 5 ++ cur.toList.take (j * 5) ++ cur.toList.drop (5 + j * 5)).toArray).heap[w1.heap.size]? = some (.cells #[.int .u64 ko, .int .i64 ka, .int .u8 kk, .int .i64 x.v, .int .i64 x.s] 56 (0, 0)) := (setRow_other _ g _ _ (by omega)).trans hwb
    have hG3 : Grew (fun b _ => some g = some b) w ((w1.alloc (.cells #[.int .u64 ko, .int .i64 ka, .int .u8 kk, .int .i64 x.v, .int .i64 x.s] 56)).drew.setRow g (cur.toList.take 5 ++ cur.toList.take (j * 5) ++ cur.toList.drop (5 + j * 5)).toArray) := by
      refine ((HS2.out.mono (fun _ _ _ h => h.elim)).drew).trans ⟨rfl, rfl, rfl, by simp, fun b o hb ht => World.cell?_of_block (setRow_other _ g b _ (fun e => ht (by rw [e]))), fun b hb ht => setRow_other _ g b _ (fun e => ht 0 (by rw [e])), fun b t hr => ?_⟩
      by_cases e : b = g
      · subst e
        obtain ⟨cs, hr⟩ := hr
        have h1 : some (Obj.cells cur 56 (0, 0)) = some (Obj.cells cs t (0, 0)) := H2.out.symm.trans hr
        cases h1
        exact ⟨_, g3⟩
      · obtain ⟨cs, hr⟩ := hr
        exact ⟨cs, (setRow_other _ g b _ e).trans hr⟩
    have hlen5 : (cur.toList.take 5).length = 5 := by rw [List.length_take]; simp; omega
    generalize harr : (cur.toList.take 5 ++ cur.toList.take (j * 5) ++ cur.toList.drop (5 + j * 5)).toArray = arr at *
    have hdrop : arr.toList.drop 5 = cur.toList.take (A.length * 5) ++ cur.toList.drop (5 + A.length * 5) := by
      rw [← harr, HJ.out]
      simp only [List.append_assoc]
      rw [List.drop_append_of_le_length (by omega), List.drop_of_length_le (by omega), List.nil_append]
    have has : 5 ≤ arr.size := by
      rw [← harr]
      simp only [List.size_toArray, List.length_append, hlen5]
      omega
    clear harr
    have hF := fun F hF => moved_row (B := B) (cap := cap) (w := w) (W := (w1.alloc (.cells #[.int .u64 ko, .int .i64 ka, .int .u8 kk, .int .i64 x.v, .int .i64 x.s] 56)).drew.setRow g arr) (F := F) (ko := ko) (ka := ka) (kk := kk) hBg HN.out HX.out HG.out.2.2 HG.out.2.1 hncap hcapm g3 hdrop has hG3 hF
    go_wp2
    generalize (w1.alloc (.cells #[.int .u64 ko, .int .i64 ka, .int .u8 kk, .int .i64 x.v, .int .i64 x.s] 56)).drew.setRow g arr = W3 at *
    have HF : Hid (∀ F, F = (((((W3.setCell ⟨g, 0, none⟩ (.int .u64 ko)).setCell ⟨g, 1, none⟩ (.int .i64 ka)).setCell ⟨g, 2, none⟩ (.int .u8 kk)).setCell ⟨g, 3, none⟩ (.int .i64 x.v)).setCell ⟨g, 4, none⟩ (.int .i64 x.s)) → F.ownsRow B 56 5 (.slice (some ⟨g, 0, none⟩) N cap) N (flat (x :: (A ++ D))) ∧ Grew (fun b _ => some g = some b) w F) := hF
    have t0 : W3.cell? ⟨w1.heap.size, 0, none⟩ = some (.int .u64 ko) := by rw [cell_of_row _ _ _ _ _ _ hb3]; rfl
    have t1 : W3.cell? ⟨w1.heap.size, 1, none⟩ = some (.int .i64 ka) := by rw [cell_of_row _ _ _ _ _ _ hb3]; rfl
    have t2 : W3.cell? ⟨w1.heap.size, 2, none⟩ = some (.int .u8 kk) := by rw [cell_of_row _ _ _ _ _ _ hb3]; rfl
    have t3 : W3.cell? ⟨w1.heap.size, 3, none⟩ = some (.int .i64 x.v) := by rw [cell_of_row _ _ _ _ _ _ hb3]; rfl
    have t4 : W3.cell? ⟨w1.heap.size, 4, none⟩ = some (.int .i64 x.s) := by rw [cell_of_row _ _ _ _ _ _ hb3]; rfl
    have d0 : W3.cell? ⟨g, 0, none⟩ = some arr[0] := by rw [cell_of_row _ _ _ _ _ _ g3, Array.getElem?_eq_getElem]
    have d1 : W3.cell? ⟨g, 1, none⟩ = some arr[1] := by rw [cell_of_row _ _ _ _ _ _ g3, Array.getElem?_eq_getElem]
    have d2 : W3.cell? ⟨g, 2, none⟩ = some arr[2] := by rw [cell_of_row _ _ _ _ _ _ g3, Array.getElem?_eq_getElem]
    have d3 : W3.cell? ⟨g, 3, none⟩ = some arr[3] := by rw [cell_of_row _ _ _ _ _ _ g3, Array.getElem?_eq_getElem]
    have d4 : W3.cell? ⟨g, 4, none⟩ = some arr[4] := by rw [cell_of_row _ _ _ _ _ _ g3, Array.getElem?_eq_getElem]
    have fg : ∀ o, W3.frozen? ⟨g, o, none⟩ = false := fun o => frozen_of_row _ _ _ _ _ g3
    have hne1 : ¬ g = w1.heap.size := by omega
    have hne2 : ¬ w1.heap.size = g := by omega
    clear c0 c1 c2 c3 c4 hwb hF hG3 hb3 g3 hdrop hlen5
    go_region
    go_wp2
    go_ret
    have h1 := HF.out _ rfl
    exact ⟨rfl, h1.1, h1.2⟩
end Go.Proofs.Ybulkbgci
