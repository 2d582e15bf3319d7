/-
  'zzs2855corder': the keys of the cache's list, the front first.
-/
import Derived.Test.YbulkbgciScript
namespace Go.Proofs.Ybulkbgci
open Go.RowKit Go.MuLone
set_option linter.unusedVariables false

def kcells (x : Ent) : List Value := [.int .u64 x.k.1, .int .i64 x.k.2.1, .int .u8 x.k.2.2]
def kflat (L : List Ent) : List Value := L.flatMap kcells
theorem kflat_length : ∀ L : List Ent, (kflat L).length = L.length * 3
  | [] => rfl
  | x :: l => by
    have := kflat_length l
    simp only [kflat, List.flatMap_cons, List.length_append, List.length_cons] at this ⊢
    simp only [kcells, List.length_cons, List.length_nil]
    omega
theorem kflat_append (A B : List Ent) : kflat (A ++ B) = kflat A ++ kflat B := by simp [kflat]
theorem kflat_at (A B : List Ent) (x : Ent) (c : Nat) (hc : c < 3) : (kflat (A ++ x :: B))[A.length * 3 + c]? = (kcells x)[c]? := by
  rw [kflat_append, List.getElem?_append_right (by rw [kflat_length]; omega), kflat_length, show A.length * 3 + c - A.length * 3 = c by omega]
  rw [show kflat (x :: B) = kcells x ++ kflat B by simp [kflat], List.getElem?_append_left (by simp [kcells]; omega)]
theorem kone (L : List Ent) : ∀ u ∈ kflat L, u.oneCell' = true := by
  intro u hu
  obtain ⟨x, _, hx⟩ := List.mem_flatMap.1 hu
  simp only [kcells, List.mem_cons, List.not_mem_nil, or_false] at hx
  rcases hx with rfl | rfl | rfl <;> rfl
theorem key_cells {w : World} {B g cap : Nat} {A D : List Ent} {x : Ent} (hm : w.ownsRow B 51 3 (.slice (some ⟨g, 0, none⟩) (A ++ x :: D).length cap) (A ++ x :: D).length (kflat (A ++ x :: D))) :
    w.cell? ⟨g, A.length * 3, none⟩ = some (.int .u64 x.k.1) ∧ w.cell? ⟨g, A.length * 3 + 1, none⟩ = some (.int .i64 x.k.2.1) ∧ w.cell? ⟨g, A.length * 3 + 2, none⟩ = some (.int .u8 x.k.2.2) := by
  have hl : (A ++ x :: D).length = A.length + 1 + D.length := by simp; omega
  refine ⟨?_, ?_, ?_⟩
  · rw [hm.cellAt _ (by omega)]; exact kflat_at A D x 0 (by omega)
  · rw [hm.cellAt _ (by omega), kflat_at A D x 1 (by omega)]; rfl
  · rw [hm.cellAt _ (by omega), kflat_at A D x 2 (by omega)]; rfl

theorem Yba.info51' : (Yba.prog.info? 51).map (fun i => (i.zero, i.size, i.bytes)) = some (some (.agg #[.int .u64 0, .int .i64 0, .int .u8 0]), 3, 24) := by kernel_rfl

/-- A key behind the keys. -/
theorem wpList_append_key {ops : Array Oper} {rest : List Oper} {o : Oper} {a : Act} {Q : Exit → Act → World → Prop} (w0 wX : World) (hgd : o.guard = none) (s x : Operand) (ho : o.op = .call { callee := .builtin .append, args := #[s, x], argTypes := #[63, 63] })
    (A : List Ent) (X : Ent) (ks : Value) (hs : a.eval s = ks) (hx : a.eval x = .slice (some ⟨wX.heap.size, 0, none⟩) 1 1) (hst : Still w0 wX) (hown : wX.ownsRow w0.heap.size 51 3 ks A.length (kflat A)) (hl : A.length ≤ 5000)
    (h : ∀ v' w', w'.ownsRow w0.heap.size 51 3 v' (A ++ [X]).length (kflat (A ++ [X])) → Still w0 w' → wpList Yba.prog ops Q rest (a.put o.dst v') w') :
    wpList Yba.prog ops Q (o :: rest) a (wX.alloc (.cells #[.int .u64 X.k.1, .int .i64 X.k.2.1, .int .u8 X.k.2.2] 51)) := by
  obtain ⟨i0, hi, hz0, hz1, hz2⟩ := info_parts Yba.info51'
  have hblk := heap_alloc_new wX (.cells #[.int .u64 X.k.1, .int .i64 X.k.2.1, .int .u8 X.k.2.2] 51)
  have hst1 : Still w0 (wX.alloc (.cells #[.int .u64 X.k.1, .int .i64 X.k.2.1, .int .u8 X.k.2.2] 51)) := hst.alloc _
  refine wpList_append_own _ hgd s x 63 ho w0.heap.size 51 i0 _ 3 24 Yba.underlying63 hi hz0 hz1 hz2 rfl (by omega) ks A.length (kflat A) hs (hown.alloc _) ⟨wX.heap.size, 0, none⟩ 1 1 (kcells X) hx (by simp [kcells]) ?_ ?_ (by unfold maxLen; omega) (by omega) (by have := hst.size; simp; omega) ?_
  · intro j u hj
    have hj3 : j < 3 := by have := (List.getElem?_eq_some_iff.1 hj).1; simpa [kcells] using this
    rw [show (⟨wX.heap.size, 0, none⟩ : Addr).add j = ⟨wX.heap.size, j, none⟩ by unfold Addr.add; split <;> simp_all, cell_of_row _ _ _ _ _ _ hblk]
    match j, hj3, hj with
    | 0, _, hj => simpa [kcells] using hj
    | 1, _, hj => simpa [kcells] using hj
    | 2, _, hj => simpa [kcells] using hj
  · intro u hu
    exact kone [X] u (by simpa [kflat] using hu)
  · intro v' w' hown' hg _
    refine h v' w' ?_ ?_
    · rw [kflat_append, show (A ++ [X]).length = A.length + 1 by simp]
      simpa [kflat] using hown'
    · have hob : ∀ b, b < w0.heap.size → ks.ownBlock ≠ some b := by
        intro b hb e
        rcases hown.2 with ⟨rfl, _⟩ | ⟨g, cap, cur, rfl, hBg, _⟩
        · simp [Value.ownBlock] at e
        · simp [Value.ownBlock] at e; omega
      have hsz := hst1.size
      have hnr : ∀ b, b < w0.heap.size → w'.heap[b]? = (wX.alloc (.cells #[.int .u64 X.k.1, .int .i64 X.k.2.1, .int .u8 X.k.2.2] 51)).heap[b]? := fun b hb => hg.block b (by omega) (fun e => hob b hb e.symm)
      refine ⟨hg.os.trans hst1.os, hg.tape.trans hst1.tape, hg.output.trans hst1.output, Nat.le_trans hsz hg.size, fun b o hb hT => (World.cell?_of_block (hnr b hb)).trans (hst1.cell b o hb hT), fun b hb hT => (hnr b hb).trans (hst1.blk b hb hT), fun b t hr => ?_⟩
      have hb := hr.lt
      obtain ⟨cs, hr⟩ := hst1.row b t hr
      exact ⟨cs, (hnr b hb).trans hr⟩

theorem neq66 (a : Addr) (w : World) : (binOp .neq 66 (.pointer (some a)) (.pointer (some a))).run Yba.prog w = .ok (.bool false) w := by
  have h : ∀ d : Nat, (Op.equalIn (d + 1) 66 (.pointer (some a)) (.pointer (some a))).run Yba.prog w = .ok true w := fun d => by
    have hs := Yba.sizeOf69 w
    simp [Op.equalIn, run_underlying Yba.underlying66, hs, sameAddr]
  simp only [binOp]
  simp [Op.equal, Op.maxDepth, h 9999]
theorem neq66_other {w : World} {a b : Addr} {ta tb : TypeId} (hne : a ≠ b) (ha : Row w a.block ta) (hb : Row w b.block tb) : (binOp .neq 66 (.pointer (some a)) (.pointer (some b))).run Yba.prog w = .ok (.bool true) w := by
  obtain ⟨j, hj, hs⟩ := info69
  obtain ⟨ca, ha⟩ := ha
  obtain ⟨cb, hb⟩ := hb
  have h : ∀ d : Nat, (Op.equalIn (d + 1) 66 (.pointer (some a)) (.pointer (some b))).run Yba.prog w = .ok false w := fun d => by
    simp [Op.equalIn, run_underlying Yba.underlying66, sizeOf, typeInfo, hj, hs, run_sameAddr_other w hne ha hb]
  simp only [binOp]
  simp [Op.equal, Op.maxDepth, h 9999]

/-- The first of the elements, or nil. -/
def hd (D : List Ent) : Value := match D with | [] => .pointer none | x :: _ => .pointer (some (nd x.e))

theorem front_none (C : Nat) (w : World) (c10 : w.cell? ⟨C, 10, none⟩ = some (.int .i64 0)) :
    Calls Yba.prog 27 #[.pointer (some (rt C))] w fun r w' => r = .returned (.pointer none) ∧ w' = w := by
  go_enter Yba.func27, Yba.ntmps27
  go_wp2
  go_ret
  exact ⟨rfl, rfl⟩
theorem front_some (C b : Nat) (len : Int) (w : World) (hl : 1 ≤ len) (c10 : w.cell? ⟨C, 10, none⟩ = some (.int .i64 len)) (c6 : w.cell? ⟨C, 6, none⟩ = some (.pointer (some (nd b)))) :
    Calls Yba.prog 27 #[.pointer (some (rt C))] w fun r w' => r = .returned (.pointer (some (nd b))) ∧ w' = w := by
  have hb : (len == 0) = false := beq_eq_false_iff_ne.2 (by omega)
  go_enter Yba.func27, Yba.ntmps27
  go_wp2
  go_ret
  exact ⟨rfl, rfl⟩
theorem next_none (C e : Nat) (w : World) (c0 : w.cell? ⟨e, 0, none⟩ = some (.pointer (some (rt C)))) (c2 : w.cell? ⟨e, 2, none⟩ = some (.pointer (some (rt C)))) :
    Calls Yba.prog 28 #[.pointer (some (nd e))] w fun r w' => r = .returned (.pointer none) ∧ w' = w := by
  have h1 := neq66 (rt C)
  go_enter Yba.func28, Yba.ntmps28
  go_wp2
  go_ret
  exact ⟨rfl, rfl⟩
theorem next_some (C e e' : Nat) (w : World) (hne : e' ≠ C) (r1 : Row w e' 69) (r2 : Row w C 78) (c0 : w.cell? ⟨e, 0, none⟩ = some (.pointer (some (nd e')))) (c2 : w.cell? ⟨e, 2, none⟩ = some (.pointer (some (rt C)))) :
    Calls Yba.prog 28 #[.pointer (some (nd e))] w fun r w' => r = .returned (.pointer (some (nd e'))) ∧ w' = w := by
  have h1 := neq66_other (w := w) (a := nd e') (b := rt C) (fun h => hne (by cases h)) r1 r2
  go_enter Yba.func28, Yba.ntmps28
  go_wp2
  go_ret
  exact ⟨rfl, rfl⟩

theorem Ring.next {C e e' : Nat} {A D : List Nat} {w : World} (h : Ring C (A ++ e :: e' :: D) w) : w.cell? ⟨e, 0, none⟩ = some (.pointer (some (nd e'))) := by
  have h1 := h.ring (by simp)
  rw [show rt C :: List.map nd (A ++ e :: e' :: D) ++ [rt C] = (rt C :: A.map nd) ++ nd e :: (nd e' :: (D.map nd ++ [rt C])) by simp] at h1
  exact ((Ch.app.1 h1).2).1.1
theorem Ring.next_last {C e : Nat} {A : List Nat} {w : World} (h : Ring C (A ++ [e]) w) : w.cell? ⟨e, 0, none⟩ = some (.pointer (some (rt C))) := by
  have h1 := h.ring (by simp)
  rw [show rt C :: List.map nd (A ++ [e]) ++ [rt C] = (rt C :: A.map nd) ++ nd e :: [rt C] by simp] at h1
  exact ((Ch.app.1 h1).2).1.1

/-- 'Front'. -/
theorem front_any {C M : Nat} {lim mu sz : Int} {n : Nat} {L : List Ent} {w : World} (h : LS C M lim mu sz n L w) : Calls Yba.prog 27 #[.pointer (some (rt C))] w fun r w' => r = .returned (hd L) ∧ w' = w := by
  cases L with
  | nil => exact front_none C w h.ring.len
  | cons x L => exact front_some C x.e _ w (by simp; omega) h.ring.len (Ring.front (es := L.map Ent.e) h.ring).1
/-- 'Next'. -/
theorem next_any {C M : Nat} {lim mu sz : Int} {n : Nat} {A D : List Ent} {x : Ent} {w : World} (h : LS C M lim mu sz n (A ++ x :: D) w) : Calls Yba.prog 28 #[.pointer (some (nd x.e))] w fun r w' => r = .returned (hd D) ∧ w' = w := by
  have hr := h.ring
  have h2 := hr.lst x.e (List.mem_map.2 ⟨x, by simp, rfl⟩)
  cases D with
  | nil =>
    rw [List.map_append, List.map_cons, List.map_nil] at hr
    exact next_none C x.e w hr.next_last h2
  | cons y D =>
    have hy : y.e ∈ (A ++ x :: y :: D).map Ent.e := List.mem_map.2 ⟨y, by simp, rfl⟩
    have h3 := hr.rows y.e hy
    have h4 := (List.nodup_cons.1 hr.nod).1
    rw [List.map_append, List.map_cons, List.map_cons] at hr
    exact next_some C x.e y.e w (fun e => h4 (e ▸ hy)) h3 hr.rC hr.next h2

set_option maxRecDepth 100000 in
set_option maxHeartbeats 2000000 in
theorem order_any (C M : Nat) (lim mu sz : Int) (n : Nat) (L : List Ent) (w : World) (h : LS C M lim mu sz n L w) (hl : L.length ≤ 5000) :
    Calls Yba.prog 17 #[.pointer (some ⟨C, 0, none⟩)] w fun r w' => ∃ ks, r = .returned ks ∧ w'.ownsRow w.heap.size 51 3 ks L.length (kflat L) ∧ Still w w' := by
  go_enter Yba.func17, Yba.ntmps17
  go_wp2_with fail
  refine (front_any h).mono ?_
  rintro r w1 ⟨rfl, rfl⟩
  have HS : Hid (LS C M lim mu sz n L w1) := h
  clear h
  go_wp2
  go_loopw [3, 4] (fun ks e wr => ∃ A D, L = A ++ D ∧ e = hd D ∧ Hid (wr.ownsRow w1.heap.size 51 3 ks A.length (kflat A) ∧ Still w1 wr) ∧ Hid (slLen ks = A.length)) (fun ks _ _ => L.length - slLen ks)
  case atStart => exact ⟨[], L, rfl, rfl, ⟨World.ownsRow_nil _ _ _ _, Grew.refl _ _⟩, rfl⟩
  case round =>
    obtain ⟨A, D, hL, rfl, HO, HL⟩ := hrel
    cases D with
    | nil =>
      rw [show hd [] = .pointer none from rfl]
      go_wp2
      go_ret
      refine ⟨_, rfl, ?_, HO.out.2⟩
      rw [hL, List.append_nil]; exact HO.out.1
    | cons x D =>
      rw [show hd (x :: D) = .pointer (some (nd x.e)) from rfl]
      have hLS : LS C M lim mu sz n (A ++ x :: D) wr := by rw [← hL]; exact HS.out.still HO.out.2
      obtain ⟨c3, p0, p1, p2, _, _⟩ := hLS.ent x (by simp)
      have hAl : A.length ≤ 5000 := by have := congrArg List.length hL; simp at this; omega
      have ha := assert84
      have HE : Hid (L = A ++ x :: D) := hL
      clear hLS hL
      go_wp2_with (at_builtin; refine wpList_append_key w1 wr rfl _ _ rfl A x u3 rfl rfl HO.out.2 HO.out.1 hAl ?_; intro v6 w6 hown6 hst6)
      have HLS : Hid (LS C M lim mu sz n (A ++ x :: D) w6) := by
        show LS _ _ _ _ _ _ _ _
        rw [← HE.out]; exact HS.out.still hst6
      have HO6 : Hid (w6.ownsRow w1.heap.size 51 3 v6 (A ++ [x]).length (kflat (A ++ [x])) ∧ Still w1 w6) := ⟨hown6, hst6⟩
      have HL6 : Hid (slLen v6 = (A ++ [x]).length) := by
        show _ = _
        rcases hown6.2 with ⟨rfl, h0⟩ | ⟨g, cap, cur, rfl, _⟩
        · simp at h0
        · rfl
      clear hown6 hst6 c3 p0 p1 p2
      go_wp2_with fail
      refine (next_any HLS.out).mono ?_
      rintro r w7 ⟨rfl, rfl⟩
      go_wp2
      go_roundw
      case rel => exact ⟨A ++ [x], D, by rw [HE.out]; simp, rfl, HO6, HL6⟩
      case measure =>
        have e1 := HL.out
        have e2 := HL6.out
        have e3 := congrArg List.length HE.out
        simp at e2 e3
        omega
end Go.Proofs.Ybulkbgci
