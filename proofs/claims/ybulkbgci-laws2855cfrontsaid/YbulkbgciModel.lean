/-
  The law's own model of the cache: keys, the model's slice, 'find', 'check'; and 'newCache'.
-/
import Derived.Test.YbulkbgciPut
import Derived.Laws.CopyRow
import Derived.Laws.StructEq
import Derived.LoopN
namespace Go.Proofs.Ybulkbgci
open Go.RowKit Go.MuLone
set_option linter.unusedVariables false

set_option maxHeartbeats 1000000 in
theorem key_any (o a : Int) (w : World) (ho0 : 0 ≤ o) (ho1 : o ≤ 255) (ha0 : 0 ≤ a) (ha1 : a ≤ 255) :
    Calls Yba.prog 11 #[.int .u8 o, .int .u8 a] w fun r w' => r = .returned (.agg #[.int .u64 (o % 3), .int .i64 (a % 4), .int .u8 (o / 3 % 2)]) ∧ w' = w.alloc (.cells #[.int .u64 (o % 3), .int .i64 (a % 4), .int .u8 (o / 3 % 2)] 51) := by
  go_enter Yba.func11, Yba.ntmps11
  go_wp2
  exact bodyPost_ret (v := .agg #[.int .u64 (o % 3), .int .i64 (a % 4), .int .u8 (o / 3 % 2)]) (by simp [results, Yba.results11, go_sem]) rfl ⟨rfl, rfl⟩

/-- Keys are compared field by field. -/
theorem eql51 (a b c a' b' c' : Int) (w : World) : (binOp .eql 51 (.agg #[.int .u64 a, .int .i64 b, .int .u8 c]) (.agg #[.int .u64 a', .int .i64 b', .int .u8 c'])).run Yba.prog w = .ok (.bool (decide ((a, b, c) = (a', b', c')))) w := by
  rw [run_eql_struct, run_equalIn_struct w 9999 51 _ _ (by unfold Program.fieldsOf; rw [Yba.underlying51]) (by kernel_rfl)]
  unfold Program.fieldsOf
  rw [Yba.underlying51]
  by_cases h1 : a = a'
  · by_cases h2 : b = b'
    · by_cases h3 : c = c'
      · simp [Op.eqFields, part, h1, h2, h3, go_sem]
      · simp [Op.eqFields, part, h1, h2, h3, go_sem]
    · simp [Op.eqFields, part, h1, h2, go_sem]
  · simp [Op.eqFields, part, h1, go_sem]
theorem guard51 (op : BinOp) (x y : Operand) (xs ys : Array Value) (w : World) : (eqGuard op 51 x y (.agg xs) (.agg ys)).run Yba.prog w = .ok () w := run_eqGuard_agg w op 51 x y xs ys (by kernel_rfl)

/-- The cells of an item of the model. -/
def item (x : Ent) : List Value := [.int .u64 x.k.1, .int .i64 x.k.2.1, .int .u8 x.k.2.2, .int .i64 x.v, .int .i64 x.s]
def flat (L : List Ent) : List Value := L.flatMap item
theorem flat_length : ∀ L : List Ent, (flat L).length = L.length * 5
  | [] => rfl
  | x :: l => by
    have := flat_length l
    simp only [flat, List.flatMap_cons, List.length_append, List.length_cons] at this ⊢
    simp only [item, List.length_cons, List.length_nil]
    omega
theorem flat_append (A B : List Ent) : flat (A ++ B) = flat A ++ flat B := by simp [flat]
theorem flat_at (A B : List Ent) (x : Ent) (c : Nat) (hc : c < 5) : (flat (A ++ x :: B))[A.length * 5 + c]? = (item x)[c]? := by
  rw [flat_append, List.getElem?_append_right (by rw [flat_length]; omega), flat_length, show A.length * 5 + c - A.length * 5 = c by omega]
  rw [show flat (x :: B) = item x ++ flat B by simp [flat], List.getElem?_append_left (by simp [item]; omega)]

/-- The cells of an element of an owned row of items. -/
theorem item_cells {w : World} {B g cap : Nat} {A D : List Ent} {x : Ent} (hm : w.ownsRow B 56 5 (.slice (some ⟨g, 0, none⟩) (A ++ x :: D).length cap) (A ++ x :: D).length (flat (A ++ x :: D))) :
    w.cell? ⟨g, A.length * 5, none⟩ = some (.int .u64 x.k.1) ∧ w.cell? ⟨g, A.length * 5 + 1, none⟩ = some (.int .i64 x.k.2.1) ∧ w.cell? ⟨g, A.length * 5 + 2, none⟩ = some (.int .u8 x.k.2.2) ∧
      w.cell? ⟨g, A.length * 5 + 3, none⟩ = some (.int .i64 x.v) ∧ w.cell? ⟨g, A.length * 5 + 4, none⟩ = some (.int .i64 x.s) := by
  have hl : (A ++ x :: D).length = A.length + 1 + D.length := by simp; omega
  refine ⟨?_, ?_, ?_, ?_, ?_⟩
  · rw [hm.cellAt _ (by omega)]; exact flat_at A D x 0 (by omega)
  · rw [hm.cellAt _ (by omega), flat_at A D x 1 (by omega)]; rfl
  · rw [hm.cellAt _ (by omega), flat_at A D x 2 (by omega)]; rfl
  · rw [hm.cellAt _ (by omega), flat_at A D x 3 (by omega)]; rfl
  · rw [hm.cellAt _ (by omega), flat_at A D x 4 (by omega)]; rfl

theorem split_at (L : List Ent) (k : Nat) (h : k < L.length) : ∃ A y D, L = A ++ y :: D ∧ A.length = k := ⟨L.take k, L[k], L.drop (k + 1), by simp, by simp; omega⟩

set_option maxRecDepth 100000 in
set_option maxHeartbeats 1000000 in
/-- 'find' at a key that the model holds. -/
theorem find_hit (B : Nat) (m : Value) (A D : List Ent) (x : Ent) (ko ka kk : Int) (w : World) (hm : w.ownsRow B 56 5 m (A ++ x :: D).length (flat (A ++ x :: D))) (hA : ∀ y ∈ A, y.k ≠ (ko, ka, kk)) (hx : x.k = (ko, ka, kk)) (hl : (A ++ x :: D).length ≤ 5000) :
    Calls Yba.prog 13 #[m, .agg #[.int .u64 ko, .int .i64 ka, .int .u8 kk]] w fun r w' => r = .returned (.int .i64 A.length) ∧ ∃ q, w' = (w.alloc (.cells #[.int .u64 ko, .int .i64 ka, .int .u8 kk] 51)).drewN q := by
  rcases hm.2 with ⟨_, h0⟩ | ⟨g, cap, cur, rfl, _⟩
  · simp at h0
  have hm1 := hm.alloc (.cells #[.int .u64 ko, .int .i64 ka, .int .u8 kk] 51)
  have k0 : (w.alloc (.cells #[.int .u64 ko, .int .i64 ka, .int .u8 kk] 51)).cell? ⟨w.heap.size, 0, none⟩ = some (.int .u64 ko) := by rw [cell_of_row _ _ _ _ _ _ (heap_alloc_new w _)]; rfl
  have k1 : (w.alloc (.cells #[.int .u64 ko, .int .i64 ka, .int .u8 kk] 51)).cell? ⟨w.heap.size, 1, none⟩ = some (.int .i64 ka) := by rw [cell_of_row _ _ _ _ _ _ (heap_alloc_new w _)]; rfl
  have k2 : (w.alloc (.cells #[.int .u64 ko, .int .i64 ka, .int .u8 kk] 51)).cell? ⟨w.heap.size, 2, none⟩ = some (.int .u8 kk) := by rw [cell_of_row _ _ _ _ _ _ (heap_alloc_new w _)]; rfl
  have hgd := guard51
  go_enter Yba.func13, Yba.ntmps13
  go_wp2
  generalize hW : w.alloc (.cells #[.int .u64 ko, .int .i64 ka, .int .u8 kk] 51) = W at *
  have HW : Hid (w.alloc (.cells #[.int .u64 ko, .int .i64 ka, .int .u8 kk] 51) = W) := hW
  clear hW
  have HM : Hid (W.ownsRow B 56 5 (.slice (some ⟨g, 0, none⟩) (A ++ x :: D).length cap) (A ++ x :: D).length (flat (A ++ x :: D))) := hm1
  have hlA : A.length < (A ++ x :: D).length := by simp
  clear hm1 hm
  generalize hN : (A ++ x :: D).length = N at *
  have HN : Hid ((A ++ x :: D).length = N) := hN
  clear hN
  go_loopw [5] (fun i wr => ∃ k q : Nat, k ≤ A.length ∧ i = .int .i64 k ∧ wr = W.drewN q) (fun i _ => A.length + 1 - (intOf i).toNat)
  case atStart => exact ⟨0, 0, Nat.zero_le _, rfl, rfl⟩
  case round =>
    obtain ⟨k, q, hk, rfl, rfl⟩ := hrel
    have i0 : (k : Int) < (N : Int) := by omega
    by_cases hlt : k < A.length
    · obtain ⟨A1, y, A2, hA1, hA2⟩ := split_at A k hlt
      have hc := item_cells (A := A1) (x := y) (D := A2 ++ x :: D) (by
        have := HM.out
        rw [hA1] at this
        rw [show A1 ++ y :: (A2 ++ x :: D) = A1 ++ y :: A2 ++ x :: D by simp]
        have e : (A1 ++ y :: A2 ++ x :: D).length = N := by rw [← hA1]; exact HN.out
        rw [e]; exact this)
      rw [hA2] at hc
      obtain ⟨c0, c1, c2, _, _⟩ := hc
      have heq : ∀ w, (binOp .eql 51 (.agg #[.int .u64 y.k.1, .int .i64 y.k.2.1, .int .u8 y.k.2.2]) (.agg #[.int .u64 ko, .int .i64 ka, .int .u8 kk])).run Yba.prog w = .ok (.bool false) w := by
        intro w
        have h1 := hA y (by rw [hA1]; simp)
        rw [eql51, decide_eq_false (fun e => h1 (by rw [← e]))]
      clear hA1 hA2
      go_wp2
      go_quiet (fail)
      go_wp2
      go_roundw
      case rel => exact ⟨k + 1, _, by omega, by go_num, rfl⟩
      case measure => simp [intOf]; omega
    · have hkA : k = A.length := by omega
      subst hkA
      obtain ⟨c0, c1, c2, _, _⟩ := item_cells (A := A) (x := x) (D := D) (by rw [HN.out]; exact HM.out)
      have heq : ∀ w, (binOp .eql 51 (.agg #[.int .u64 x.k.1, .int .i64 x.k.2.1, .int .u8 x.k.2.2]) (.agg #[.int .u64 ko, .int .i64 ka, .int .u8 kk])).run Yba.prog w = .ok (.bool true) w := by
        intro w
        rw [eql51, decide_eq_true (by rw [← hx])]
      clear hx
      go_wp2
      go_quiet (fail)
      go_wp2
      go_ret
      exact ⟨rfl, q + nq, by rw [HW.out, World.drewN_drewN]⟩

set_option maxRecDepth 100000 in
set_option maxHeartbeats 1000000 in
/-- 'find' at a key that the model does not hold. -/
theorem find_miss (B : Nat) (m : Value) (L : List Ent) (ko ka kk : Int) (w : World) (hm : w.ownsRow B 56 5 m L.length (flat L)) (hA : ∀ y ∈ L, y.k ≠ (ko, ka, kk)) (hl : L.length ≤ 5000) :
    Calls Yba.prog 13 #[m, .agg #[.int .u64 ko, .int .i64 ka, .int .u8 kk]] w fun r w' => r = .returned (.int .i64 (-1)) ∧ ∃ q, w' = (w.alloc (.cells #[.int .u64 ko, .int .i64 ka, .int .u8 kk] 51)).drewN q := by
  rcases hm.2 with ⟨rfl, h0⟩ | ⟨g, cap, cur, rfl, _⟩
  · go_enter Yba.func13, Yba.ntmps13
    go_wp2
    refine wp_loop_rounds 1 ?_
    rw [rounds_succ]
    go_wp2
    go_ret
    exact ⟨rfl, 0, rfl⟩
  have hm1 := hm.alloc (.cells #[.int .u64 ko, .int .i64 ka, .int .u8 kk] 51)
  have k0 : (w.alloc (.cells #[.int .u64 ko, .int .i64 ka, .int .u8 kk] 51)).cell? ⟨w.heap.size, 0, none⟩ = some (.int .u64 ko) := by rw [cell_of_row _ _ _ _ _ _ (heap_alloc_new w _)]; rfl
  have k1 : (w.alloc (.cells #[.int .u64 ko, .int .i64 ka, .int .u8 kk] 51)).cell? ⟨w.heap.size, 1, none⟩ = some (.int .i64 ka) := by rw [cell_of_row _ _ _ _ _ _ (heap_alloc_new w _)]; rfl
  have k2 : (w.alloc (.cells #[.int .u64 ko, .int .i64 ka, .int .u8 kk] 51)).cell? ⟨w.heap.size, 2, none⟩ = some (.int .u8 kk) := by rw [cell_of_row _ _ _ _ _ _ (heap_alloc_new w _)]; rfl
  have hgd := guard51
  go_enter Yba.func13, Yba.ntmps13
  go_wp2
  generalize hW : w.alloc (.cells #[.int .u64 ko, .int .i64 ka, .int .u8 kk] 51) = W at *
  have HW : Hid (w.alloc (.cells #[.int .u64 ko, .int .i64 ka, .int .u8 kk] 51) = W) := hW
  clear hW
  have HM : Hid (W.ownsRow B 56 5 (.slice (some ⟨g, 0, none⟩) L.length cap) L.length (flat L)) := hm1
  clear hm1 hm
  generalize hN : L.length = N at *
  have HN : Hid (L.length = N) := hN
  clear hN
  go_loopw [5] (fun i wr => ∃ k q : Nat, k ≤ N ∧ i = .int .i64 k ∧ wr = W.drewN q) (fun i _ => N - (intOf i).toNat)
  case atStart => exact ⟨0, 0, Nat.zero_le _, rfl, rfl⟩
  case round =>
    obtain ⟨k, q, hk, rfl, rfl⟩ := hrel
    by_cases hlt : k < N
    · have i0 : (k : Int) < (N : Int) := by omega
      obtain ⟨A1, y, A2, hA1, hA2⟩ := split_at L k (by rw [HN.out]; exact hlt)
      have hc := item_cells (A := A1) (x := y) (D := A2) (by
        have := HM.out
        rw [← HN.out, hA1] at this
        exact this)
      rw [hA2] at hc
      obtain ⟨c0, c1, c2, _, _⟩ := hc
      have heq : ∀ w, (binOp .eql 51 (.agg #[.int .u64 y.k.1, .int .i64 y.k.2.1, .int .u8 y.k.2.2]) (.agg #[.int .u64 ko, .int .i64 ka, .int .u8 kk])).run Yba.prog w = .ok (.bool false) w := by
        intro w
        have h1 := hA y (by rw [hA1]; simp)
        rw [eql51, decide_eq_false (fun e => h1 (by rw [← e]))]
      clear hA1 hA2
      go_wp2
      go_quiet (fail)
      go_wp2
      go_roundw
      case rel => exact ⟨k + 1, _, by omega, by go_num, rfl⟩
      case measure => simp [intOf]; omega
    · go_wp2
      go_ret
      exact ⟨rfl, q, by rw [HW.out]⟩

/-- 'copy(m[1:j+1], m[:j])': the first n items go one place up. -/
theorem run_copy_up (w : World) (ty : TypeId) (g n c1 c2 : Nat) (cur : Array Value) (hg : w.heap[g]? = some (.cells cur 56 (0, 0))) (hfit : 5 + n * 5 ≤ cur.size) (h1 : ∀ v ∈ cur.toList.take (n * 5), v.oneCell' = true) :
    (Builtin.copy_ #[45, 45] ty #[.slice (some ⟨g, 5, none⟩) n c1, .slice (some ⟨g, 0, none⟩) n c2]).run Yba.prog w =
      .ok (goInt n) (w.setRow g (cur.toList.take 5 ++ cur.toList.take (n * 5) ++ cur.toList.drop (5 + n * 5)).toArray) := by
  have hlen : (cur.toList.take (n * 5)).length = n * 5 := by rw [List.length_take]; simp; omega
  have hl := run_loadCells_list (P := Yba.prog) w ⟨g, 0, none⟩ (cur.toList.take (n * 5)) (fun j v hj => by
    have hjl : j < n * 5 := by
      have := (List.getElem?_eq_some_iff.1 hj).1
      omega
    rw [show (⟨g, 0, none⟩ : Addr).add j = ⟨g, j, none⟩ by unfold Addr.add; split <;> simp_all, cell_of_row _ _ _ _ _ _ hg]
    rw [List.getElem?_take, if_pos hjl] at hj
    simpa using hj)
  rw [hlen] at hl
  have hst := run_storeCells_at Yba.prog g 5 56 (cur.toList.take (n * 5)) 0 cur w hg (by rw [hlen]; omega) h1
  have hs56 := Yba.sizeOf56 w
  simp only [hlen, Nat.add_zero] at hst
  simp [Builtin.copy_, run_underlying Yba.underlying45, Builtin.lenOf, Builtin.firstCells, hs56, hl, hst]
end Go.Proofs.Ybulkbgci
