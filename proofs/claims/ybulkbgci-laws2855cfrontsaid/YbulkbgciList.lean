/-
  container/list over the cache's list: the links of the ring, and what each method does to them.
-/
import Derived.Test.YbulkbgciRows
import Derived.WalkKit
import Derived.WalkSpells
import Derived.BigQuiet
import Derived.Deep.QuietTactic
import Derived.LaidEqlPtr
namespace Go.Proofs.Ybulkbgci
open Go.RowKit

/-- Block b is a row of cells of type t, none frozen. -/
def Row (w : World) (b : Nat) (t : TypeId) : Prop := ∃ cs, w.heap[b]? = some (.cells cs t (0, 0))

theorem Row.frozen {w : World} {b : Nat} {t : TypeId} (h : Row w b t) (o : Nat) : w.frozen? ⟨b, o, none⟩ = false := by
  obtain ⟨cs, h⟩ := h
  simp [World.frozen?, h]
theorem Row.setCell {w : World} {b : Nat} {t : TypeId} (h : Row w b t) (b' o : Nat) (v : Value) : Row (w.setCell ⟨b', o, none⟩ v) b t := by
  obtain ⟨cs, h⟩ := h
  by_cases e : b = b'
  · subst e; exact ⟨_, heap_setCell_same w b o cs t v h⟩
  · exact ⟨cs, (Below.heap_setCell w ⟨b', o, none⟩ v b (by simpa using e)).trans h⟩

/-- w' is w but for cells that T names; rows stay rows. -/
structure Wr (T : Nat → Nat → Prop) (w w' : World) : Prop where
  os : w'.os = w.os
  tape : w'.tape = w.tape
  output : w'.output = w.output
  size : w'.heap.size = w.heap.size
  cell : ∀ b o, ¬ T b o → w'.cell? ⟨b, o, none⟩ = w.cell? ⟨b, o, none⟩
  blk : ∀ b, (∀ o, ¬ T b o) → w'.heap[b]? = w.heap[b]?
  row : ∀ b t, Row w b t → Row w' b t

theorem Wr.refl (T : Nat → Nat → Prop) (w : World) : Wr T w w := ⟨rfl, rfl, rfl, rfl, fun _ _ _ => rfl, fun _ _ => rfl, fun _ _ h => h⟩
theorem Wr.trans {T : Nat → Nat → Prop} {a b c : World} (h : Wr T a b) (k : Wr T b c) : Wr T a c :=
  ⟨k.os.trans h.os, k.tape.trans h.tape, k.output.trans h.output, k.size.trans h.size, fun x o hx => (k.cell x o hx).trans (h.cell x o hx), fun x hx => (k.blk x hx).trans (h.blk x hx), fun x t hx => k.row x t (h.row x t hx)⟩
theorem Wr.mono {T T' : Nat → Nat → Prop} {a b : World} (h : Wr T a b) (hT : ∀ x o, T x o → T' x o) : Wr T' a b :=
  ⟨h.os, h.tape, h.output, h.size, fun x o hx => h.cell x o (fun t => hx (hT x o t)), fun x hx => h.blk x (fun o t => hx o (hT x o t)), h.row⟩
theorem Wr.drewN {T : Nat → Nat → Prop} {a b : World} (h : Wr T a b) (n : Nat) : Wr T a (b.drewN n) :=
  h.trans ⟨rfl, rfl, rfl, rfl, fun _ _ _ => rfl, fun _ _ => rfl, fun _ _ h => h⟩
theorem Wr.drew {T : Nat → Nat → Prop} {a b : World} (h : Wr T a b) : Wr T a b.drew :=
  h.trans ⟨rfl, rfl, rfl, rfl, fun _ _ _ => rfl, fun _ _ => rfl, fun _ _ h => h⟩
theorem cell_set_ne {w : World} {b o b' o' : Nat} {v : Value} (h : ¬ (b = b' ∧ o = o')) : (w.setCell ⟨b, o, none⟩ v).cell? ⟨b', o', none⟩ = w.cell? ⟨b', o', none⟩ :=
  World.cell?_setCell_other w ⟨b, o, none⟩ ⟨b', o', none⟩ v (fun e => h (by cases e; exact ⟨rfl, rfl⟩))
theorem Wr.setCell {T : Nat → Nat → Prop} {a w : World} (h : Wr T a w) {b o : Nat} (hT : T b o) (v : Value) : Wr T a (w.setCell ⟨b, o, none⟩ v) :=
  h.trans ⟨rfl, rfl, rfl, by simp [World.setCell], fun x y hx => cell_set_ne (fun e => hx (by rw [← e.1, ← e.2]; exact hT)), fun x hx => Below.heap_setCell w ⟨b, o, none⟩ v x (fun e => hx o (by rw [e]; exact hT)), fun _ _ hr => hr.setCell _ _ _⟩
theorem cell_set_same {w : World} {b o : Nat} {u : Value} (h : w.cell? ⟨b, o, none⟩ = some u) (v : Value) : (w.setCell ⟨b, o, none⟩ v).cell? ⟨b, o, none⟩ = some v := World.cell?_setCell_same w _ v h
theorem Wr.below {T : Nat → Nat → Prop} {w w' : World} (h : Wr T w w') {B : Nat} (hB : ∀ b o, T b o → B ≤ b) : Below B w w' :=
  ⟨h.os, h.tape, h.output, by rw [h.size]; exact Nat.le_refl _, fun k hk => h.blk k (fun o t => by have := hB k o t; omega)⟩

/-- A node's address: the root is ⟨C, 6⟩, an element ⟨e, 0⟩. -/
abbrev nd (e : Nat) : Addr := ⟨e, 0, none⟩
abbrev rt (C : Nat) : Addr := ⟨C, 6, none⟩
def Lnk (w : World) (x y : Addr) : Prop := w.cell? ⟨x.block, x.off, none⟩ = some (.pointer (some y)) ∧ w.cell? ⟨y.block, y.off + 1, none⟩ = some (.pointer (some x))
def Ch (w : World) : List Addr → Prop
  | x :: y :: r => Lnk w x y ∧ Ch w (y :: r)
  | _ => True

theorem Ch.app {w : World} : ∀ {A : List Addr} {x : Addr} {B : List Addr}, Ch w (A ++ x :: B) ↔ Ch w (A ++ [x]) ∧ Ch w (x :: B)
  | [], x, B => by simp [Ch]
  | [a], x, B => by simp [Ch]
  | a :: b :: A, x, B => by
    have := Ch.app (w := w) (A := b :: A) (x := x) (B := B)
    simp only [List.cons_append] at this
    simp only [List.cons_append, Ch, this, and_assoc]

theorem Ch.keep {w w' : World} : ∀ {L : List Addr}, Ch w L → (∀ x ∈ L.dropLast, w'.cell? ⟨x.block, x.off, none⟩ = w.cell? ⟨x.block, x.off, none⟩) → (∀ x ∈ L.tail, w'.cell? ⟨x.block, x.off + 1, none⟩ = w.cell? ⟨x.block, x.off + 1, none⟩) → Ch w' L
  | [], _, _, _ => by simp [Ch]
  | [x], _, _, _ => by simp [Ch]
  | x :: y :: r, h, hn, hp => by
    refine ⟨⟨?_, ?_⟩, Ch.keep h.2 (fun z hz => hn z ?_) (fun z hz => hp z ?_)⟩
    · rw [hn x (by simp)]; exact h.1.1
    · rw [hp y (by simp)]; exact h.1.2
    · simp only [List.dropLast_cons_cons]; exact List.mem_cons_of_mem _ hz
    · simp only [List.tail_cons] at hz ⊢; exact List.mem_cons_of_mem _ hz

set_option linter.unusedVariables false

theorem eql67 (a : Addr) (w : World) : (binOp .eql 67 (.pointer (some a)) (.pointer (some a))).run Yba.prog w = .ok (.bool true) w := by
  have h : ∀ d : Nat, (Op.equalIn (d + 1) 67 (.pointer (some a)) (.pointer (some a))).run Yba.prog w = .ok true w := fun d => by
    have hs := Yba.sizeOf71 w
    simp [Op.equalIn, run_underlying Yba.underlying67, hs, sameAddr]
  simp only [binOp]
  simp [Op.equal, Op.maxDepth, h 9999]
theorem neq67 (a : Addr) (w : World) : (binOp .neq 67 (.pointer (some a)) (.pointer (some a))).run Yba.prog w = .ok (.bool false) w := by
  have h : ∀ d : Nat, (Op.equalIn (d + 1) 67 (.pointer (some a)) (.pointer (some a))).run Yba.prog w = .ok true w := fun d => by
    have hs := Yba.sizeOf71 w
    simp [Op.equalIn, run_underlying Yba.underlying67, hs, sameAddr]
  simp only [binOp]
  simp [Op.equal, Op.maxDepth, h 9999]
theorem eql66 (a : Addr) (w : World) : (binOp .eql 66 (.pointer (some a)) (.pointer (some a))).run Yba.prog w = .ok (.bool true) w := by
  have h : ∀ d : Nat, (Op.equalIn (d + 1) 66 (.pointer (some a)) (.pointer (some a))).run Yba.prog w = .ok true w := fun d => by
    have hs := Yba.sizeOf69 w
    simp [Op.equalIn, run_underlying Yba.underlying66, hs, sameAddr]
  simp only [binOp]
  simp [Op.equal, Op.maxDepth, h 9999]
theorem info69 : ∃ j, Yba.prog.info? 69 = some j ∧ j.size ≠ 0 := by
  have h : (Yba.prog.info? 69).map (·.size) = some 4 := by kernel_rfl
  obtain ⟨j, h1, h2⟩ := Option.map_eq_some_iff.1 h
  exact ⟨j, h1, by omega⟩
theorem eql66_other {w : World} {a b : Addr} {ta tb : TypeId} (hne : a ≠ b) (ha : Row w a.block ta) (hb : Row w b.block tb) : (binOp .eql 66 (.pointer (some a)) (.pointer (some b))).run Yba.prog w = .ok (.bool false) w := by
  obtain ⟨j, hj, hs⟩ := info69
  obtain ⟨ca, ha⟩ := ha
  obtain ⟨cb, hb⟩ := hb
  exact run_eql_ptr_other w Yba.underlying66 hj hs hne ha hb

set_option maxRecDepth 100000 in
set_option maxHeartbeats 1000000 in
/-- 'PushFront', the list not empty. -/
theorem push_more (C nb p : Nat) (len : Int) (u3 : Value) (w : World) (hl : 0 ≤ len) (hl2 : len ≤ 100000)
    (c6 : w.cell? ⟨C, 6, none⟩ = some (.pointer (some (nd nb)))) (c10 : w.cell? ⟨C, 10, none⟩ = some (.int .i64 len)) (n1 : w.cell? ⟨nb, 1, none⟩ = some u3)
    (fC : ∀ o, w.frozen? ⟨C, o, none⟩ = false) (fn : ∀ o, w.frozen? ⟨nb, o, none⟩ = false)
    (h2 : ¬ nb = C) (h2' : ¬ C = nb) (hC : C < w.heap.size) (hn : nb < w.heap.size) (hC' : ¬ C = w.heap.size) (hn' : ¬ nb = w.heap.size) :
    Calls Yba.prog 22 #[.pointer (some (rt C)), .iface 84 (.pointer (some (nd p)))] w fun r w' => r = .returned (.pointer (some (nd w.heap.size))) ∧
      w' = (((w.setCell ⟨C, 6, none⟩ (.pointer (some (nd w.heap.size)))).setCell ⟨nb, 1, none⟩ (.pointer (some (nd w.heap.size)))).setCell ⟨C, 10, none⟩ (.int .i64 (len + 1))).alloc (.cells #[.pointer (some (nd nb)), .pointer (some (rt C)), .pointer (some (rt C)), .iface 84 (.pointer (some (nd p)))] 69) := by
  go_enter Yba.func22, Yba.ntmps22
  go_wp2
  go_end0
  go_wp2
  go_ret
  exact ⟨rfl, rfl⟩

set_option maxRecDepth 100000 in
set_option maxHeartbeats 1000000 in
/-- 'PushFront', a list that was never used. -/
theorem push_first (C p : Nat) (u7 : Value) (w : World)
    (c6 : w.cell? ⟨C, 6, none⟩ = some (.pointer none)) (c7 : w.cell? ⟨C, 7, none⟩ = some u7) (c10 : w.cell? ⟨C, 10, none⟩ = some (.int .i64 0))
    (fC : ∀ o, w.frozen? ⟨C, o, none⟩ = false) (hC : C < w.heap.size) (hC' : ¬ C = w.heap.size) :
    Calls Yba.prog 22 #[.pointer (some (rt C)), .iface 84 (.pointer (some (nd p)))] w fun r w' => r = .returned (.pointer (some (nd w.heap.size))) ∧
      w' = ((((((w.setCell ⟨C, 6, none⟩ (.pointer (some (rt C)))).setCell ⟨C, 7, none⟩ (.pointer (some (rt C)))).setCell ⟨C, 10, none⟩ (.int .i64 0)).setCell ⟨C, 6, none⟩ (.pointer (some (nd w.heap.size)))).setCell ⟨C, 7, none⟩ (.pointer (some (nd w.heap.size)))).setCell ⟨C, 10, none⟩ (.int .i64 1)).alloc (.cells #[.pointer (some (rt C)), .pointer (some (rt C)), .pointer (some (rt C)), .iface 84 (.pointer (some (nd p)))] 69) := by
  go_enter Yba.func22, Yba.ntmps22
  go_wp2
  go_end0
  go_wp2
  go_ret
  exact ⟨rfl, rfl⟩

set_option maxRecDepth 100000 in
set_option maxHeartbeats 1000000 in
/-- 'Remove' of the last element, which is not the only one. -/
theorem remove_last (C e pb : Nat) (len : Int) (u0 u7 v : Value) (w : World) (hl : 1 ≤ len) (hl2 : len ≤ 100000)
    (c7 : w.cell? ⟨C, 7, none⟩ = some u7) (c10 : w.cell? ⟨C, 10, none⟩ = some (.int .i64 len))
    (e0 : w.cell? ⟨e, 0, none⟩ = some (.pointer (some (rt C)))) (e1 : w.cell? ⟨e, 1, none⟩ = some (.pointer (some (nd pb)))) (e2 : w.cell? ⟨e, 2, none⟩ = some (.pointer (some (rt C)))) (e3 : w.cell? ⟨e, 3, none⟩ = some v)
    (p0 : w.cell? ⟨pb, 0, none⟩ = some u0)
    (fC : ∀ o, w.frozen? ⟨C, o, none⟩ = false) (fe : ∀ o, w.frozen? ⟨e, o, none⟩ = false) (fp : ∀ o, w.frozen? ⟨pb, o, none⟩ = false)
    (h1 : ¬ e = C) (h2 : ¬ pb = C) (h3 : ¬ pb = e) (h1' : ¬ C = e) (h2' : ¬ C = pb) (h3' : ¬ e = pb) :
    Calls Yba.prog 39 #[.pointer (some (rt C)), .pointer (some (nd e))] w fun r w' => r = .returned v ∧
      w' = ((((((w.setCell ⟨pb, 0, none⟩ (.pointer (some (rt C)))).setCell ⟨C, 7, none⟩ (.pointer (some (nd pb)))).setCell ⟨e, 0, none⟩ (.pointer none)).setCell ⟨e, 1, none⟩ (.pointer none)).setCell ⟨e, 2, none⟩ (.pointer none)).setCell ⟨C, 10, none⟩ (.int .i64 (len - 1))).drew.drew := by
  have heq := eql67
  go_enter Yba.func39, Yba.ntmps39
  go_wp2
  go_region
  go_wp2
  go_region
  go_wp2
  go_end0
  go_wp2
  go_ret
  exact ⟨rfl, rfl⟩

set_option maxRecDepth 100000 in
set_option maxHeartbeats 1000000 in
/-- 'MoveToFront' of the front. -/
theorem move_front (C e : Nat) (w : World) (c6 : w.cell? ⟨C, 6, none⟩ = some (.pointer (some (nd e)))) (e2 : w.cell? ⟨e, 2, none⟩ = some (.pointer (some (rt C)))) :
    Calls Yba.prog 26 #[.pointer (some (rt C)), .pointer (some (nd e))] w fun r w' => r = .returned (.tuple #[]) ∧ w' = w := by
  have heq := neq67
  have heq2 := eql66
  go_enter Yba.func26, Yba.ntmps26
  go_wp2
  refine bodyPost_ret (results_none rfl _ _ _) rfl ?_
  exact ⟨rfl, rfl⟩

set_option maxRecDepth 100000 in
set_option maxHeartbeats 1000000 in
/-- 'MoveToFront' of the last. -/
theorem move_last (C e f pb : Nat) (u0 u7 u1 : Value) (w : World)
    (c6 : w.cell? ⟨C, 6, none⟩ = some (.pointer (some (nd f)))) (c7 : w.cell? ⟨C, 7, none⟩ = some u7)
    (e0 : w.cell? ⟨e, 0, none⟩ = some (.pointer (some (rt C)))) (e1 : w.cell? ⟨e, 1, none⟩ = some (.pointer (some (nd pb)))) (e2 : w.cell? ⟨e, 2, none⟩ = some (.pointer (some (rt C))))
    (p0 : w.cell? ⟨pb, 0, none⟩ = some u0) (f1 : w.cell? ⟨f, 1, none⟩ = some u1)
    (rC : Row w C 78) (re : Row w e 69) (rp : Row w pb 69) (rf : Row w f 69)
    (h1 : ¬ e = C) (h2 : ¬ pb = C) (h3 : ¬ pb = e) (h4 : ¬ f = C) (h5 : ¬ f = e) (h1' : ¬ C = e) (h2' : ¬ C = pb) (h3' : ¬ e = pb) (h4' : ¬ C = f) (h5' : ¬ e = f) :
    Calls Yba.prog 26 #[.pointer (some (rt C)), .pointer (some (nd e))] w fun r w' => r = .returned (.tuple #[]) ∧
      w' = ((((((w.setCell ⟨pb, 0, none⟩ (.pointer (some (rt C)))).setCell ⟨C, 7, none⟩ (.pointer (some (nd pb)))).setCell ⟨e, 1, none⟩ (.pointer (some (rt C)))).setCell ⟨e, 0, none⟩ (.pointer (some (nd f)))).setCell ⟨C, 6, none⟩ (.pointer (some (nd e)))).setCell ⟨f, 1, none⟩ (.pointer (some (nd e)))).drew.drew := by
  have heq := neq67
  have heq2 := eql66_other (w := w) (a := nd f) (b := nd e) (by simp [h5]) rf re
  have heq3 := eql66_other (w := w) (a := nd e) (b := rt C) (by simp [h1]) re rC
  have fC := rC.frozen
  have fe := re.frozen
  have fp := rp.frozen
  have ff := rf.frozen
  clear rC re rp rf
  go_enter Yba.func26, Yba.ntmps26
  go_wp2
  go_region
  go_wp2
  go_region
  go_wp2
  go_end0
  go_wp2
  go_end0
  exact ⟨rfl, rfl⟩

set_option maxRecDepth 100000 in
set_option maxHeartbeats 1000000 in
/-- 'MoveToFront' of one in the middle. -/
theorem move_mid (C e f pb nb : Nat) (u0 u3 u1 : Value) (w : World)
    (c6 : w.cell? ⟨C, 6, none⟩ = some (.pointer (some (nd f))))
    (e0 : w.cell? ⟨e, 0, none⟩ = some (.pointer (some (nd nb)))) (e1 : w.cell? ⟨e, 1, none⟩ = some (.pointer (some (nd pb)))) (e2 : w.cell? ⟨e, 2, none⟩ = some (.pointer (some (rt C))))
    (p0 : w.cell? ⟨pb, 0, none⟩ = some u0) (f1 : w.cell? ⟨f, 1, none⟩ = some u1) (n1 : w.cell? ⟨nb, 1, none⟩ = some u3)
    (rC : Row w C 78) (re : Row w e 69) (rp : Row w pb 69) (rf : Row w f 69) (rn : Row w nb 69)
    (h1 : ¬ e = C) (h2 : ¬ pb = C) (h3 : ¬ pb = e) (h4 : ¬ f = C) (h5 : ¬ f = e) (h6 : ¬ nb = C) (h7 : ¬ nb = e) (h8 : ¬ nb = f) (h9 : ¬ nb = pb)
    (h1' : ¬ C = e) (h2' : ¬ C = pb) (h3' : ¬ e = pb) (h4' : ¬ C = f) (h5' : ¬ e = f) (h6' : ¬ C = nb) (h7' : ¬ e = nb) (h8' : ¬ f = nb) (h9' : ¬ pb = nb) :
    Calls Yba.prog 26 #[.pointer (some (rt C)), .pointer (some (nd e))] w fun r w' => r = .returned (.tuple #[]) ∧
      w' = ((((((w.setCell ⟨pb, 0, none⟩ (.pointer (some (nd nb)))).setCell ⟨nb, 1, none⟩ (.pointer (some (nd pb)))).setCell ⟨e, 1, none⟩ (.pointer (some (rt C)))).setCell ⟨e, 0, none⟩ (.pointer (some (nd f)))).setCell ⟨C, 6, none⟩ (.pointer (some (nd e)))).setCell ⟨f, 1, none⟩ (.pointer (some (nd e)))).drew.drew := by
  have heq := neq67
  have heq2 := eql66_other (w := w) (a := nd f) (b := nd e) (by simp [h5]) rf re
  have heq3 := eql66_other (w := w) (a := nd e) (b := rt C) (by simp [h1]) re rC
  have fC := rC.frozen
  have fe := re.frozen
  have fp := rp.frozen
  have ff := rf.frozen
  have fn := rn.frozen
  clear rC re rp rf rn
  go_enter Yba.func26, Yba.ntmps26
  go_wp2
  go_region
  go_wp2
  go_region
  go_wp2
  go_end0
  go_wp2
  go_end0
  exact ⟨rfl, rfl⟩

set_option maxHeartbeats 1000000 in
theorem len_any (C : Nat) (len : Int) (w : World) (c10 : w.cell? ⟨C, 10, none⟩ = some (.int .i64 len)) :
    Calls Yba.prog 23 #[.pointer (some (rt C))] w fun r w' => r = .returned (.int .i64 len) ∧ w' = w := by
  go_enter Yba.func23, Yba.ntmps23
  go_wp2
  go_ret
  exact ⟨rfl, rfl⟩

set_option maxHeartbeats 1000000 in
theorem back_any (C b : Nat) (len : Int) (w : World) (hl : 1 ≤ len) (c10 : w.cell? ⟨C, 10, none⟩ = some (.int .i64 len)) (c7 : w.cell? ⟨C, 7, none⟩ = some (.pointer (some (nd b)))) :
    Calls Yba.prog 25 #[.pointer (some (rt C))] w fun r w' => r = .returned (.pointer (some (nd b))) ∧ w' = w := by
  have hb : (len == 0) = false := beq_eq_false_iff_ne.2 (by omega)
  go_enter Yba.func25, Yba.ntmps25
  go_wp2
  go_ret
  exact ⟨rfl, rfl⟩
end Go.Proofs.Ybulkbgci
