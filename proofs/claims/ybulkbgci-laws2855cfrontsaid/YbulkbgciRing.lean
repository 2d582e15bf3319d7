/-
  The ring of the cache's list: pushed to, an element removed, an element moved to the front.
-/
import Derived.Test.YbulkbgciList
namespace Go.Proofs.Ybulkbgci
open Go.RowKit
set_option linter.unusedVariables false

/-- As 'Wr', new blocks let in. -/
structure Grew (T : Nat → Nat → Prop) (w w' : World) : Prop where
  os : w'.os = w.os
  tape : w'.tape = w.tape
  output : w'.output = w.output
  size : w.heap.size ≤ w'.heap.size
  cell : ∀ b o, b < w.heap.size → ¬ T b o → w'.cell? ⟨b, o, none⟩ = w.cell? ⟨b, o, none⟩
  blk : ∀ b, b < w.heap.size → (∀ o, ¬ T b o) → w'.heap[b]? = w.heap[b]?
  row : ∀ b t, Row w b t → Row w' b t

theorem Wr.grew {T : Nat → Nat → Prop} {w w' : World} (h : Wr T w w') : Grew T w w' :=
  ⟨h.os, h.tape, h.output, by rw [h.size]; exact Nat.le_refl _, fun b o _ hT => h.cell b o hT, fun b _ hT => h.blk b hT, h.row⟩
theorem Grew.refl (T : Nat → Nat → Prop) (w : World) : Grew T w w := (Wr.refl T w).grew
theorem Grew.trans {T : Nat → Nat → Prop} {a b c : World} (h : Grew T a b) (k : Grew T b c) : Grew T a c :=
  ⟨k.os.trans h.os, k.tape.trans h.tape, k.output.trans h.output, Nat.le_trans h.size k.size, fun x o hx ht => (k.cell x o (Nat.lt_of_lt_of_le hx h.size) ht).trans (h.cell x o hx ht),
    fun x hx ht => (k.blk x (Nat.lt_of_lt_of_le hx h.size) ht).trans (h.blk x hx ht), fun x t hx => k.row x t (h.row x t hx)⟩
theorem Grew.mono {T T' : Nat → Nat → Prop} {a b : World} (h : Grew T a b) (hT : ∀ x o, x < a.heap.size → T x o → T' x o) : Grew T' a b :=
  ⟨h.os, h.tape, h.output, h.size, fun x o hx ht => h.cell x o hx (fun t => ht (hT x o hx t)), fun x hx ht => h.blk x hx (fun o t => ht o (hT x o hx t)), h.row⟩
theorem Grew.alloc {T : Nat → Nat → Prop} {a w : World} (h : Grew T a w) (o : Obj) : Grew T a (w.alloc o) :=
  h.trans ⟨rfl, rfl, rfl, by simp, fun b o' hb _ => World.cell?_of_block (Below.heap_alloc w o b hb), fun b hb _ => Below.heap_alloc w o b hb,
    fun b t ⟨cs, hr⟩ => ⟨cs, (Below.heap_alloc w o b (Array.getElem?_eq_some_iff.1 hr).1).trans hr⟩⟩
theorem Grew.drewN {T : Nat → Nat → Prop} {a w : World} (h : Grew T a w) (n : Nat) : Grew T a (w.drewN n) := h.trans ((Wr.refl T w).drewN n).grew
theorem Grew.drew {T : Nat → Nat → Prop} {a w : World} (h : Grew T a w) : Grew T a w.drew := h.trans (Wr.refl T w).drew.grew
theorem Grew.setCell {T : Nat → Nat → Prop} {a w : World} (h : Grew T a w) {b o : Nat} (hT : T b o) (v : Value) : Grew T a (w.setCell ⟨b, o, none⟩ v) := h.trans ((Wr.refl T w).setCell hT v).grew
theorem Grew.below {T : Nat → Nat → Prop} {w w' : World} (h : Grew T w w') {B : Nat} (hB : ∀ b o, T b o → B ≤ b) (hs : B ≤ w.heap.size) : Below B w w' :=
  ⟨h.os, h.tape, h.output, h.size, fun k hk => h.blk k (by omega) (fun o t => by have := hB k o t; omega)⟩

/-- A cell is there. -/
def Has (w : World) (b o : Nat) : Prop := ∃ u, w.cell? ⟨b, o, none⟩ = some u
theorem Has.of {w : World} {b o : Nat} {u : Value} (h : w.cell? ⟨b, o, none⟩ = some u) : Has w b o := ⟨u, h⟩
theorem Has.set {w : World} {b o b' o' : Nat} {v : Value} (h : Has w b o) : Has (w.setCell ⟨b', o', none⟩ v) b o := by
  obtain ⟨u, h⟩ := h
  by_cases e : b' = b ∧ o' = o
  · obtain ⟨rfl, rfl⟩ := e; exact ⟨v, cell_set_same h v⟩
  · exact ⟨u, (cell_set_ne e).trans h⟩
theorem cell_set_same' {w : World} {b o : Nat} (h : Has w b o) (v : Value) : (w.setCell ⟨b, o, none⟩ v).cell? ⟨b, o, none⟩ = some v := by
  obtain ⟨u, h⟩ := h; exact cell_set_same h v

/-- The cells that the list's methods write. -/
def TL (C : Nat) (es : List Nat) (b o : Nat) : Prop := (b = C ∧ (o = 6 ∨ o = 7 ∨ o = 10)) ∨ (b ∈ es ∧ o < 3)

/-- The list of the cache in block C: its elements' blocks, the front first. -/
structure Ring (C : Nat) (es : List Nat) (w : World) : Prop where
  rC : Row w C 78
  rows : ∀ e ∈ es, Row w e 69
  nod : (C :: es).Nodup
  len : w.cell? ⟨C, 10, none⟩ = some (.int .i64 es.length)
  lst : ∀ e ∈ es, w.cell? ⟨e, 2, none⟩ = some (.pointer (some (rt C)))
  fresh : es = [] → w.cell? ⟨C, 6, none⟩ = some (.pointer none) ∧ Has w C 7
  ring : es ≠ [] → Ch w (rt C :: es.map nd ++ [rt C])

theorem Row.lt {w : World} {b : Nat} {t : TypeId} (h : Row w b t) : b < w.heap.size := by
  obtain ⟨cs, h⟩ := h; exact (Array.getElem?_eq_some_iff.1 h).1

/-- What the ring needs of a world is what it needs of another in which those cells are the same. -/
theorem Ring.keep {C : Nat} {es : List Nat} {w w' : World} (h : Ring C es w) (hr : ∀ b t, Row w b t → Row w' b t) (hc : ∀ b o, (b = C ∧ (o = 6 ∨ o = 7 ∨ o = 10)) ∨ (b ∈ es ∧ o < 3) → w'.cell? ⟨b, o, none⟩ = w.cell? ⟨b, o, none⟩) : Ring C es w' := by
  refine ⟨hr _ _ h.rC, fun e he => hr _ _ (h.rows e he), h.nod, ?_, ?_, ?_, ?_⟩
  · rw [hc C 10 (.inl ⟨rfl, by omega⟩)]; exact h.len
  · intro e he; rw [hc e 2 (.inr ⟨he, by omega⟩)]; exact h.lst e he
  · intro h0
    obtain ⟨h1, u, h2⟩ := h.fresh h0
    exact ⟨by rw [hc C 6 (.inl ⟨rfl, by omega⟩)]; exact h1, u, by rw [hc C 7 (.inl ⟨rfl, by omega⟩)]; exact h2⟩
  · intro h0
    refine (h.ring h0).keep ?_ ?_
    · intro x hx
      have hx := List.dropLast_subset _ hx
      simp only [List.cons_append, List.mem_cons, List.mem_append, List.mem_map, List.not_mem_nil, or_false] at hx
      rcases hx with rfl | ⟨a, ha, rfl⟩ | rfl
      · exact hc C 6 (.inl ⟨rfl, by omega⟩)
      · exact hc a 0 (.inr ⟨ha, by omega⟩)
      · exact hc C 6 (.inl ⟨rfl, by omega⟩)
    · intro x hx
      have hx := List.mem_of_mem_tail hx
      simp only [List.cons_append, List.mem_cons, List.mem_append, List.mem_map, List.not_mem_nil, or_false] at hx
      rcases hx with rfl | ⟨a, ha, rfl⟩ | rfl
      · exact hc C 7 (.inl ⟨rfl, by omega⟩)
      · exact hc a 1 (.inr ⟨ha, by omega⟩)
      · exact hc C 7 (.inl ⟨rfl, by omega⟩)

theorem Ring.ne {C : Nat} {es : List Nat} {w : World} (h : Ring C es w) {e : Nat} (he : e ∈ es) : e ≠ C := fun h1 => (List.nodup_cons.1 h.nod).1 (h1 ▸ he)

/-- The front of a list that is not empty. -/
theorem Ring.front {C e : Nat} {es : List Nat} {w : World} (h : Ring C (e :: es) w) : w.cell? ⟨C, 6, none⟩ = some (.pointer (some (nd e))) ∧ w.cell? ⟨e, 1, none⟩ = some (.pointer (some (rt C))) := by
  have := h.ring (by simp)
  exact ⟨this.1.1, this.1.2⟩

/-- The back. -/
theorem Ring.back {C e : Nat} {es : List Nat} {w : World} (h : Ring C (es ++ [e]) w) : w.cell? ⟨e, 0, none⟩ = some (.pointer (some (rt C))) ∧ w.cell? ⟨C, 7, none⟩ = some (.pointer (some (nd e))) := by
  have := h.ring (by simp)
  rw [show rt C :: (es ++ [e]).map nd ++ [rt C] = (rt C :: es.map nd) ++ nd e :: [rt C] by simp] at this
  have h2 := (Ch.app.1 this).2
  exact ⟨h2.1.1, h2.1.2⟩

/-- Two neighbours. -/
theorem Ring.mid {C p e : Nat} {A B : List Nat} {w : World} (h : Ring C (A ++ p :: e :: B) w) : w.cell? ⟨p, 0, none⟩ = some (.pointer (some (nd e))) ∧ w.cell? ⟨e, 1, none⟩ = some (.pointer (some (nd p))) := by
  have := h.ring (by simp)
  rw [show rt C :: (A ++ p :: e :: B).map nd ++ [rt C] = (rt C :: A.map nd) ++ nd p :: (nd e :: (B.map nd ++ [rt C])) by simp] at this
  have h2 := (Ch.app.1 this).2
  exact ⟨h2.1.1, h2.1.2⟩


theorem mem_dropLast_ne {A : List Nat} {p x : Nat} (h : (A ++ [p]).Nodup) (hx : x ∈ (A ++ [p]).dropLast) : x ≠ p := by
  rw [List.dropLast_concat] at hx
  intro e
  subst e
  exact (List.nodup_append.1 h).2.2 x hx x (by simp) rfl
theorem mem_tail_ne {A : List Nat} {p x : Nat} (h : (p :: A).Nodup) (hx : x ∈ (p :: A).tail) : x ≠ p := fun e => (List.nodup_cons.1 h).1 (e ▸ hx)

theorem dropLast_map {α β : Type} (f : α → β) (l : List α) : (l.map f).dropLast = l.dropLast.map f := by
  induction l with
  | nil => rfl
  | cons a l ih => cases l with
    | nil => rfl
    | cons b l => simp only [List.map_cons, List.dropLast_cons_cons] at ih ⊢; rw [ih]

theorem cell_drew2 (w : World) (a : Addr) : w.drew.drew.cell? a = w.cell? a := rfl

/-- The world behind 'Remove' of the last element. -/
theorem rm_world {C e pb : Nat} {n : Int} {w W : World} (hce : e ≠ C) (hcp : pb ≠ C) (hpe : pb ≠ e) (g0 : Has w pb 0) (g7 : Has w C 7) (g10 : Has w C 10)
    (hW : W = ((((((w.setCell ⟨pb, 0, none⟩ (.pointer (some (rt C)))).setCell ⟨C, 7, none⟩ (.pointer (some (nd pb)))).setCell ⟨e, 0, none⟩ (.pointer none)).setCell ⟨e, 1, none⟩ (.pointer none)).setCell ⟨e, 2, none⟩ (.pointer none)).setCell ⟨C, 10, none⟩ (.int .i64 n)).drew.drew) :
    Wr (fun b o => (b = pb ∧ o = 0) ∨ (b = C ∧ o = 7) ∨ (b = e ∧ o < 3) ∨ (b = C ∧ o = 10)) w W ∧ W.cell? ⟨pb, 0, none⟩ = some (.pointer (some (rt C))) ∧ W.cell? ⟨C, 7, none⟩ = some (.pointer (some (nd pb))) ∧ W.cell? ⟨C, 10, none⟩ = some (.int .i64 n) := by
  subst hW
  refine ⟨Wr.drew (Wr.drew ?_), ?_, ?_, ?_⟩
  · refine Wr.setCell ?_ ?_ _
    refine Wr.setCell ?_ ?_ _
    refine Wr.setCell ?_ ?_ _
    refine Wr.setCell ?_ ?_ _
    refine Wr.setCell ?_ ?_ _
    refine Wr.setCell ?_ ?_ _
    · exact Wr.refl _ _
    all_goals simp
  · rw [cell_drew2]
    rw [cell_set_ne (by omega), cell_set_ne (by omega), cell_set_ne (by omega), cell_set_ne (by omega), cell_set_ne (by omega)]
    exact cell_set_same' g0 _
  · rw [cell_drew2]
    rw [cell_set_ne (by omega), cell_set_ne (by omega), cell_set_ne (by omega), cell_set_ne (by omega)]
    exact cell_set_same' g7.set _
  · rw [cell_drew2]
    exact cell_set_same' g10.set.set.set.set.set _

/-- The last element goes. -/
theorem ring_remove {C e pb : Nat} {A : List Nat} {w W : World} (h : Ring C (A ++ [pb] ++ [e]) w)
    (hwr : Wr (fun b o => (b = pb ∧ o = 0) ∨ (b = C ∧ o = 7) ∨ (b = e ∧ o < 3) ∨ (b = C ∧ o = 10)) w W) (k0 : W.cell? ⟨pb, 0, none⟩ = some (.pointer (some (rt C)))) (k7 : W.cell? ⟨C, 7, none⟩ = some (.pointer (some (nd pb))))
    (k10 : W.cell? ⟨C, 10, none⟩ = some (.int .i64 (A ++ [pb]).length)) : Ring C (A ++ [pb]) W ∧ Wr (TL C (A ++ [pb] ++ [e])) w W := by
  have hnd := h.nod
  have hAe : ∀ x ∈ A ++ [pb], x ≠ e := fun x hx e1 => (List.nodup_append.1 (List.nodup_cons.1 hnd).2).2.2 x hx e (by simp) e1
  have hAC : ∀ x ∈ A ++ [pb], x ≠ C := fun x hx => h.ne (List.mem_append_left _ hx)
  have hApn : (A ++ [pb]).Nodup := (List.nodup_append.1 (List.nodup_cons.1 hnd).2).1
  have hce : e ≠ C := h.ne (by simp)
  have hcp : pb ≠ C := h.ne (by simp)
  refine ⟨⟨hwr.row _ _ h.rC, fun x hx => hwr.row _ _ (h.rows x (List.mem_append_left _ hx)), ?_, k10, ?_, ?_, ?_⟩, hwr.mono ?_⟩
  · rw [List.nodup_cons]
    exact ⟨fun hx => hAC C hx rfl, hApn⟩
  · intro x hx
    have h1 := hAe x hx; have h2 := hAC x hx
    rw [hwr.cell x 2 (by simp [h1, h2])]
    exact h.lst x (List.mem_append_left _ hx)
  · intro h0; simp at h0
  · intro _
    have hr := h.ring (by simp)
    rw [show rt C :: (A ++ [pb] ++ [e]).map nd ++ [rt C] = (rt C :: (A ++ [pb]).map nd) ++ nd e :: [rt C] by simp] at hr
    have h1 := (Ch.app.1 hr).1
    rw [show rt C :: (A ++ [pb]).map nd ++ [nd e] = (rt C :: A.map nd) ++ nd pb :: [nd e] by simp] at h1
    have h2 := (Ch.app.1 h1).1
    rw [show rt C :: (A ++ [pb]).map nd ++ [rt C] = (rt C :: A.map nd) ++ nd pb :: [rt C] by simp]
    refine Ch.app.2 ⟨h2.keep ?_ ?_, ⟨k0, k7⟩, trivial⟩
    · intro x hx
      rw [List.dropLast_concat] at hx
      rcases List.mem_cons.1 hx with rfl | hx
      · exact hwr.cell C 6 (by simp [hce.symm, hcp.symm])
      · obtain ⟨a, ha, rfl⟩ := List.mem_map.1 hx
        have h3 : a ≠ pb := fun e1 => (List.nodup_append.1 hApn).2.2 a ha pb (by simp) e1
        have h4 := hAe a (by simp [ha]); have h5 := hAC a (by simp [ha])
        exact hwr.cell a 0 (by simp [h3, h4, h5])
    · intro x hx
      simp only [List.cons_append, List.tail_cons] at hx
      have hx' : x ∈ (A ++ [pb]).map nd := by simpa using hx
      obtain ⟨a, ha, rfl⟩ := List.mem_map.1 hx'
      have h4 := hAe a ha; have h5 := hAC a ha
      exact hwr.cell a 1 (by simp [h4, h5])
  · intro x o ht
    simp only [TL]
    rcases ht with ⟨rfl, rfl⟩ | ⟨rfl, rfl⟩ | ⟨rfl, ho⟩ | ⟨rfl, rfl⟩
    · exact .inr ⟨by simp, by omega⟩
    · exact .inl ⟨rfl, by omega⟩
    · exact .inr ⟨by simp, ho⟩
    · exact .inl ⟨rfl, by omega⟩

/-- 'Remove' of the last element of a list of two or more. -/
theorem remove_any {C e : Nat} {A : List Nat} {v : Value} (w : World) (h : Ring C (A ++ [e]) w) (hA : A ≠ []) (hl : A.length ≤ 50000) (e3 : w.cell? ⟨e, 3, none⟩ = some v) :
    Calls Yba.prog 39 #[.pointer (some (rt C)), .pointer (some (nd e))] w fun r w' => r = .returned v ∧ Ring C A w' ∧ Wr (TL C (A ++ [e])) w w' := by
  obtain ⟨A0, pb, rfl⟩ : ∃ A0 pb, A = A0 ++ [pb] := ⟨A.dropLast, A.getLast hA, (List.dropLast_concat_getLast hA).symm⟩
  have hm := Ring.mid (A := A0) (B := []) (p := pb) (e := e) (by simpa using h)
  have hb := h.back
  have hce : e ≠ C := h.ne (by simp)
  have hcp : pb ≠ C := h.ne (by simp)
  have hpe : pb ≠ e := fun e1 => (List.nodup_append.1 (List.nodup_cons.1 h.nod).2).2.2 pb (by simp) e (by simp) e1
  have hlen := h.len
  refine (remove_last C e pb (A0 ++ [pb] ++ [e]).length _ _ v w (by simp; omega) (by simp at hl ⊢; omega) hb.2 hlen hb.1 hm.2 (h.lst e (by simp)) e3 hm.1 h.rC.frozen (h.rows e (by simp)).frozen (h.rows pb (by simp)).frozen
    hce hcp hpe hce.symm hcp.symm hpe.symm).mono ?_
  rintro r w' ⟨rfl, hw⟩
  obtain ⟨k1, k2, k3, k4⟩ := rm_world hce hcp hpe ⟨_, hm.1⟩ ⟨_, hb.2⟩ ⟨_, hlen⟩ hw
  exact ⟨rfl, ring_remove h k1 k2 k3 (by rw [k4]; simp; omega)⟩

/-- The world behind 'MoveToFront': (xb, xo): the cell of the next node's 'prev'. -/
theorem mv_world {C e pb f xb xo : Nat} {nx : Addr} {w W : World} (hce : e ≠ C) (hcp : pb ≠ C) (hpe : pb ≠ e) (hfC : f ≠ C) (hfe : f ≠ e) (hx1 : xo ≠ 0) (hx2 : xb ≠ e) (hx3 : xb ≠ f) (hx4 : xb = C → xo = 7)
    (g0 : Has w pb 0) (gx : Has w xb xo) (ge0 : Has w e 0) (ge1 : Has w e 1) (g6 : Has w C 6) (gf : Has w f 1)
    (hW : W = ((((((w.setCell ⟨pb, 0, none⟩ (.pointer (some nx))).setCell ⟨xb, xo, none⟩ (.pointer (some (nd pb)))).setCell ⟨e, 1, none⟩ (.pointer (some (rt C)))).setCell ⟨e, 0, none⟩ (.pointer (some (nd f)))).setCell ⟨C, 6, none⟩ (.pointer (some (nd e)))).setCell ⟨f, 1, none⟩ (.pointer (some (nd e)))).drew.drew) :
    Wr (fun b o => (b = pb ∧ o = 0) ∨ (b = xb ∧ o = xo) ∨ (b = e ∧ o < 2) ∨ (b = C ∧ o = 6) ∨ (b = f ∧ o = 1)) w W ∧ W.cell? ⟨pb, 0, none⟩ = some (.pointer (some nx)) ∧ W.cell? ⟨xb, xo, none⟩ = some (.pointer (some (nd pb))) ∧
      W.cell? ⟨e, 1, none⟩ = some (.pointer (some (rt C))) ∧ W.cell? ⟨e, 0, none⟩ = some (.pointer (some (nd f))) ∧ W.cell? ⟨C, 6, none⟩ = some (.pointer (some (nd e))) ∧ W.cell? ⟨f, 1, none⟩ = some (.pointer (some (nd e))) := by
  subst hW
  refine ⟨Wr.drew (Wr.drew ?_), ?_, ?_, ?_, ?_, ?_, ?_⟩
  · refine Wr.setCell ?_ ?_ _
    refine Wr.setCell ?_ ?_ _
    refine Wr.setCell ?_ ?_ _
    refine Wr.setCell ?_ ?_ _
    refine Wr.setCell ?_ ?_ _
    refine Wr.setCell ?_ ?_ _
    · exact Wr.refl _ _
    all_goals simp
  · rw [cell_drew2]
    rw [cell_set_ne (by omega), cell_set_ne (by omega), cell_set_ne (by omega), cell_set_ne (by omega), cell_set_ne (by omega)]
    exact cell_set_same' g0 _
  · rw [cell_drew2]
    rw [cell_set_ne (by omega), cell_set_ne (by omega), cell_set_ne (by omega), cell_set_ne (by omega)]
    exact cell_set_same' gx.set _
  · rw [cell_drew2]
    rw [cell_set_ne (by omega), cell_set_ne (by omega), cell_set_ne (by omega)]
    exact cell_set_same' ge1.set.set _
  · rw [cell_drew2]
    rw [cell_set_ne (by omega), cell_set_ne (by omega)]
    exact cell_set_same' ge0.set.set.set _
  · rw [cell_drew2]
    rw [cell_set_ne (by omega)]
    exact cell_set_same' g6.set.set.set.set _
  · rw [cell_drew2]
    exact cell_set_same' gf.set.set.set.set.set _

/-- The node behind a list's head part: the next element, or the root. -/
def nxt (C : Nat) : List Nat → Addr
  | [] => rt C
  | b :: _ => nd b

theorem nxt_map (C : Nat) (B : List Nat) : ∃ R, B.map nd ++ [rt C] = nxt C B :: R ∧ (B = [] → R = []) ∧ ∀ b B1, B = b :: B1 → R = B1.map nd ++ [rt C] := by
  cases B with
  | nil => exact ⟨[], rfl, fun _ => rfl, fun _ _ h => (by cases h)⟩
  | cons b B1 => exact ⟨_, rfl, fun h => (by cases h), fun _ _ h => (by cases h; rfl)⟩

/-- An element that is not the front goes to the front. -/
theorem ring_move {C e pb f xb xo : Nat} {A B : List Nat} {w W : World} (h : Ring C (A ++ e :: B) w) (hf : ∃ A1, A = f :: A1) (hp : ∃ A0, A = A0 ++ [pb])
    (hx : (B = [] ∧ xb = C ∧ xo = 7) ∨ (∃ B1, B = xb :: B1 ∧ xo = 1))
    (hwr : Wr (fun b o => (b = pb ∧ o = 0) ∨ (b = xb ∧ o = xo) ∨ (b = e ∧ o < 2) ∨ (b = C ∧ o = 6) ∨ (b = f ∧ o = 1)) w W)
    (k0 : W.cell? ⟨pb, 0, none⟩ = some (.pointer (some (nxt C B)))) (kx : W.cell? ⟨xb, xo, none⟩ = some (.pointer (some (nd pb)))) (ke1 : W.cell? ⟨e, 1, none⟩ = some (.pointer (some (rt C)))) (ke0 : W.cell? ⟨e, 0, none⟩ = some (.pointer (some (nd f))))
    (k6 : W.cell? ⟨C, 6, none⟩ = some (.pointer (some (nd e)))) (kf : W.cell? ⟨f, 1, none⟩ = some (.pointer (some (nd e)))) : Ring C (e :: (A ++ B)) W ∧ Wr (TL C (A ++ e :: B)) w W := by
  have hnd := h.nod
  have hnd2 := (List.nodup_cons.1 hnd).2
  obtain ⟨hA, heB, hAB⟩ := List.nodup_append.1 hnd2
  obtain ⟨heB', hB⟩ := List.nodup_cons.1 heB
  have hCe : e ≠ C := h.ne (by simp)
  have hAC : ∀ x ∈ A, x ≠ C := fun x hx => h.ne (by simp [hx])
  have hBC : ∀ x ∈ B, x ≠ C := fun x hx => h.ne (by simp [hx])
  have hAe : ∀ x ∈ A, x ≠ e := fun x hx => hAB x hx e (by simp)
  have hBe : ∀ x ∈ B, x ≠ e := fun x hx e1 => heB' (e1 ▸ hx)
  have hABn : ∀ x ∈ A, ∀ y ∈ B, x ≠ y := fun x hx y hy => hAB x hx y (by simp [hy])
  have hfA : f ∈ A := by obtain ⟨A1, rfl⟩ := hf; simp
  have hpA : pb ∈ A := by obtain ⟨A0, rfl⟩ := hp; simp
  have hxs : xb = C ∧ xo = 7 ∨ xb ∈ B ∧ xo = 1 := by
    rcases hx with ⟨_, h1, h2⟩ | ⟨B1, rfl, h2⟩
    · exact .inl ⟨h1, h2⟩
    · exact .inr ⟨by simp, h2⟩
  have hmem : ∀ x, x ∈ e :: (A ++ B) → x ∈ A ++ e :: B := by
    intro x hx
    simp only [List.mem_cons, List.mem_append] at hx ⊢
    rcases hx with h1 | h1 | h1
    · exact .inr (.inl h1)
    · exact .inl h1
    · exact .inr (.inr h1)
  refine ⟨⟨hwr.row _ _ h.rC, fun x hx => hwr.row _ _ (h.rows x (hmem x hx)), ?_, ?_, ?_, ?_, ?_⟩, hwr.mono ?_⟩
  · have hp : (A ++ e :: B).Perm (e :: (A ++ B)) := List.perm_middle
    exact (hp.cons C).nodup_iff.1 hnd
  · rw [hwr.cell C 10 (by
      have := hAC f hfA; have := hAC pb hpA
      rcases hxs with ⟨rfl, rfl⟩ | ⟨h1, rfl⟩ <;> omega)]
    rw [h.len]; simp; omega
  · intro x hx
    rw [hwr.cell x 2 (by
      rcases hxs with ⟨rfl, rfl⟩ | ⟨h1, rfl⟩ <;> omega)]
    exact h.lst x (hmem x hx)
  · intro h0; simp at h0
  · intro _
    have hr := h.ring (by simp)
    rw [show rt C :: (A ++ e :: B).map nd ++ [rt C] = (rt C :: A.map nd) ++ nd e :: (B.map nd ++ [rt C]) by simp] at hr
    obtain ⟨h1, h2⟩ := Ch.app.1 hr
    obtain ⟨R, hR, hR0, hR1⟩ := nxt_map C B
    rw [hR] at h2
    have h3 : Ch w (nxt C B :: R) := h2.2
    -- the front part, f .. pb
    have h4 : Ch w (A.map nd) := by
      obtain ⟨A1, rfl⟩ := hf
      obtain ⟨A0, hA0⟩ := hp
      have h5 : Ch w ((f :: A1).map nd ++ [nd e]) := h1.2
      rw [hA0, show (A0 ++ [pb]).map nd ++ [nd e] = A0.map nd ++ nd pb :: [nd e] by simp] at h5
      have := (Ch.app.1 h5).1
      rw [hA0, show (A0 ++ [pb]).map nd = A0.map nd ++ [nd pb] by simp]
      exact this
    have h4' : Ch W (A.map nd) := by
      refine h4.keep ?_ ?_
      · intro x hx
        obtain ⟨A0, rfl⟩ := hp
        rw [show (A0 ++ [pb]).map nd = A0.map nd ++ [nd pb] by simp, List.dropLast_concat] at hx
        obtain ⟨a, ha, rfl⟩ := List.mem_map.1 hx
        have q1 : a ≠ pb := fun e1 => (List.nodup_append.1 hA).2.2 a ha pb (by simp) e1
        have q2 := hAe a (by simp [ha]); have q3 := hAC a (by simp [ha])
        refine hwr.cell a 0 ?_
        rcases hxs with ⟨rfl, rfl⟩ | ⟨h1, rfl⟩ <;> omega
      · intro x hx
        obtain ⟨A1, rfl⟩ := hf
        simp only [List.map_cons, List.tail_cons] at hx
        obtain ⟨a, ha, rfl⟩ := List.mem_map.1 hx
        have q1 : a ≠ f := fun e1 => (List.nodup_cons.1 hA).1 (e1 ▸ ha)
        have q2 := hAe a (by simp [ha]); have q3 := hAC a (by simp [ha])
        refine hwr.cell a 1 ?_
        rcases hxs with ⟨rfl, rfl⟩ | ⟨h1, rfl⟩
        · omega
        · have := hABn a (by simp [ha]) xb h1; omega
    have h3' : Ch W (nxt C B :: R) := by
      refine h3.keep ?_ ?_
      · intro x hx
        rw [← hR, List.dropLast_concat] at hx
        obtain ⟨a, ha, rfl⟩ := List.mem_map.1 hx
        have q1 := hABn pb hpA a ha
        have q2 := hBe a ha; have q3 := hBC a ha
        refine hwr.cell a 0 ?_
        rcases hxs with ⟨rfl, rfl⟩ | ⟨h1, rfl⟩ <;> omega
      · intro x hx
        simp only [List.tail_cons] at hx
        rcases hx' : B with _ | ⟨b, B1⟩
        · rw [hR0 hx'] at hx; simp at hx
        · rw [hR1 b B1 hx'] at hx
          have hxb : xb = b := by
            rcases hx0 : hx with _
            rcases ‹(B = [] ∧ xb = C ∧ xo = 7) ∨ (∃ B1, B = xb :: B1 ∧ xo = 1)› with ⟨h0, _⟩ | ⟨B2, h0, _⟩
            · rw [hx'] at h0; cases h0
            · rw [hx'] at h0; cases h0; rfl
          simp only [List.mem_append, List.mem_map, List.mem_singleton] at hx
          rcases hx with ⟨a, ha, rfl⟩ | rfl
          · have haB : a ∈ B := by rw [hx']; simp [ha]
            have q1 : a ≠ xb := fun e1 => by
              rw [hx'] at hB
              exact (List.nodup_cons.1 hB).1 (hxb ▸ e1 ▸ ha)
            have q2 := hBe a haB; have q3 := hBC a haB
            have q4 := hABn f hfA a haB
            exact hwr.cell a 1 (by omega)
          · have q1 := hAC f hfA
            have q2 : xb ≠ C := by rw [hxb]; exact hBC b (by rw [hx']; simp)
            exact hwr.cell C 7 (by omega)
    have hlast : Ch W (A.map nd ++ nxt C B :: R) := by
      obtain ⟨A0, rfl⟩ := hp
      rw [show (A0 ++ [pb]).map nd ++ nxt C B :: R = A0.map nd ++ nd pb :: (nxt C B :: R) by simp]
      refine Ch.app.2 ⟨by rw [show A0.map nd ++ [nd pb] = (A0 ++ [pb]).map nd by simp]; exact h4', ⟨⟨k0, ?_⟩, h3'⟩⟩
      rcases ‹(B = [] ∧ xb = C ∧ xo = 7) ∨ (∃ B1, B = xb :: B1 ∧ xo = 1)› with ⟨rfl, rfl, rfl⟩ | ⟨B2, rfl, rfl⟩
      · exact kx
      · exact kx
    rw [show rt C :: (e :: (A ++ B)).map nd ++ [rt C] = rt C :: nd e :: (A.map nd ++ (B.map nd ++ [rt C])) by simp, hR]
    obtain ⟨A1, rfl⟩ := hf
    exact ⟨⟨k6, ke1⟩, ⟨ke0, kf⟩, hlast⟩
  · intro x o ht
    simp only [TL]
    have m1 : f ∈ A ++ e :: B := by simp [hfA]
    have m2 : pb ∈ A ++ e :: B := by simp [hpA]
    rcases ht with ⟨rfl, rfl⟩ | ⟨rfl, rfl⟩ | ⟨rfl, ho⟩ | ⟨rfl, rfl⟩ | ⟨rfl, rfl⟩
    · exact .inr ⟨m2, by omega⟩
    · rcases hxs with ⟨h1, h2⟩ | ⟨h1, h2⟩
      · exact .inl ⟨h1, by omega⟩
      · exact .inr ⟨by simp [h1], by omega⟩
    · exact .inr ⟨by simp, by omega⟩
    · exact .inl ⟨rfl, by omega⟩
    · exact .inr ⟨m1, by omega⟩

theorem Wr.of_eq {T : Nat → Nat → Prop} {w w' : World} (h : w' = w) : Wr T w w' := h ▸ Wr.refl T w

/-- 'MoveToFront'. -/
theorem move_any {C e : Nat} {A B : List Nat} (w : World) (h : Ring C (A ++ e :: B) w) :
    Calls Yba.prog 26 #[.pointer (some (rt C)), .pointer (some (nd e))] w fun r w' => r = .returned (.tuple #[]) ∧ Ring C (e :: (A ++ B)) w' ∧ Wr (TL C (A ++ e :: B)) w w' := by
  have hCe : e ≠ C := h.ne (by simp)
  have hle := h.lst e (by simp)
  have re := h.rows e (by simp)
  rcases hA : A with _ | ⟨f, A1⟩
  · subst hA
    refine (move_front C e w h.front.1 hle).mono ?_
    rintro r w' ⟨rfl, rfl⟩
    exact ⟨rfl, by simpa using h, Wr.refl _ _⟩
  · have hAne : A ≠ [] := by rw [hA]; simp
    obtain ⟨A0, pb, hA0⟩ : ∃ A0 pb, A = A0 ++ [pb] := ⟨A.dropLast, A.getLast hAne, (List.dropLast_concat_getLast hAne).symm⟩
    have hfA : f ∈ A := by rw [hA]; simp
    have hpA : pb ∈ A := by rw [hA0]; simp
    have hnd2 := (List.nodup_cons.1 h.nod).2
    obtain ⟨_, heB, hAB⟩ := List.nodup_append.1 hnd2
    have hfe : f ≠ e := hAB f hfA e (by simp)
    have hpe : pb ≠ e := hAB pb hpA e (by simp)
    have hfC : f ≠ C := h.ne (by simp [hfA])
    have hpC : pb ≠ C := h.ne (by simp [hpA])
    have hfr : w.cell? ⟨C, 6, none⟩ = some (.pointer (some (nd f))) ∧ w.cell? ⟨f, 1, none⟩ = some (.pointer (some (rt C))) := by
      have h' := h
      rw [hA] at h'
      exact Ring.front (es := A1 ++ e :: B) (by simpa using h')
    have hmd : w.cell? ⟨pb, 0, none⟩ = some (.pointer (some (nd e))) ∧ w.cell? ⟨e, 1, none⟩ = some (.pointer (some (nd pb))) := by
      have h' := h
      rw [hA0] at h'
      exact Ring.mid (A := A0) (B := B) (by simpa using h')
    have rf := h.rows f (by simp [hfA])
    have rp := h.rows pb (by simp [hpA])
    rcases hB : B with _ | ⟨nb, B1⟩
    · have hbk : w.cell? ⟨e, 0, none⟩ = some (.pointer (some (rt C))) ∧ w.cell? ⟨C, 7, none⟩ = some (.pointer (some (nd e))) := by
        have h' := h
        rw [hB] at h'
        exact Ring.back h'
      refine (move_last C e f pb _ _ _ w hfr.1 hbk.2 hbk.1 hmd.2 hle hmd.1 hfr.2 h.rC re rp rf hCe hpC hpe hfC hfe hCe.symm hpC.symm hpe.symm hfC.symm hfe.symm).mono ?_
      rintro r w' ⟨rfl, hw⟩
      obtain ⟨k1, k2, k3, k4, k5, k6, k7⟩ := mv_world hCe hpC hpe hfC hfe (by omega) hCe.symm hfC.symm (fun _ => rfl) ⟨_, hmd.1⟩ ⟨_, hbk.2⟩ ⟨_, hbk.1⟩ ⟨_, hmd.2⟩ ⟨_, hfr.1⟩ ⟨_, hfr.2⟩ hw
      subst hB
      rw [← hA]
      exact ⟨rfl, ring_move h ⟨A1, hA⟩ ⟨A0, hA0⟩ (.inl ⟨rfl, rfl, rfl⟩) k1 k2 k3 k4 k5 k6 k7⟩
    · have hnB : nb ∈ B := by rw [hB]; simp
      have hnC : nb ≠ C := h.ne (by simp [hnB])
      have hne : nb ≠ e := fun e1 => (List.nodup_cons.1 heB).1 (e1 ▸ hnB)
      have hnf : nb ≠ f := fun e1 => hAB f hfA nb (by simp [hnB]) e1.symm
      have hnp : nb ≠ pb := fun e1 => hAB pb hpA nb (by simp [hnB]) e1.symm
      have hmn : w.cell? ⟨e, 0, none⟩ = some (.pointer (some (nd nb))) ∧ w.cell? ⟨nb, 1, none⟩ = some (.pointer (some (nd e))) := by
        have h' := h
        rw [hB] at h'
        exact Ring.mid h'
      refine (move_mid C e f pb nb _ _ _ w hfr.1 hmn.1 hmd.2 hle hmd.1 hfr.2 hmn.2 h.rC re rp rf (h.rows nb (by simp [hnB])) hCe hpC hpe hfC hfe hnC hne hnf hnp hCe.symm hpC.symm hpe.symm hfC.symm hfe.symm hnC.symm hne.symm hnf.symm hnp.symm).mono ?_
      rintro r w' ⟨rfl, hw⟩
      obtain ⟨k1, k2, k3, k4, k5, k6, k7⟩ := mv_world hCe hpC hpe hfC hfe (by omega) hne hnf (fun e1 => absurd e1 hnC) ⟨_, hmd.1⟩ ⟨_, hmn.2⟩ ⟨_, hmn.1⟩ ⟨_, hmd.2⟩ ⟨_, hfr.1⟩ ⟨_, hfr.2⟩ hw
      subst hB
      rw [← hA]
      exact ⟨rfl, ring_move h ⟨A1, hA⟩ ⟨A0, hA0⟩ (.inr ⟨B1, rfl, rfl⟩) k1 k2 k3 k4 k5 k6 k7⟩

/-- The world behind 'PushFront': the stores, then the new element's block; (xb, xo): the cell of the old front's 'prev'. -/
theorem ps_world {C xb xo p : Nat} {nx : Addr} {n : Int} {w W0 W : World} (hx : xb ≠ C ∨ xo = 7) (hC : C < w.heap.size) (hW0 : Wr (fun b o => (b = C ∧ (o = 6 ∨ o = 10)) ∨ (b = xb ∧ o = xo)) w W0)
    (h6 : W0.cell? ⟨C, 6, none⟩ = some (.pointer (some (nd w.heap.size)))) (hxo : W0.cell? ⟨xb, xo, none⟩ = some (.pointer (some (nd w.heap.size)))) (h10 : W0.cell? ⟨C, 10, none⟩ = some (.int .i64 n))
    (hxl : xb < w.heap.size)
    (hW : W = W0.alloc (.cells #[.pointer (some nx), .pointer (some (rt C)), .pointer (some (rt C)), .iface 84 (.pointer (some (nd p)))] 69)) :
    Grew (fun b o => (b = C ∧ (o = 6 ∨ o = 10)) ∨ (b = xb ∧ o = xo)) w W ∧ W.heap[w.heap.size]? = some (.cells #[.pointer (some nx), .pointer (some (rt C)), .pointer (some (rt C)), .iface 84 (.pointer (some (nd p)))] 69 (0, 0)) ∧
      W.cell? ⟨C, 6, none⟩ = some (.pointer (some (nd w.heap.size))) ∧ W.cell? ⟨xb, xo, none⟩ = some (.pointer (some (nd w.heap.size))) ∧ W.cell? ⟨C, 10, none⟩ = some (.int .i64 n) ∧ W.heap.size = w.heap.size + 1 := by
  subst hW
  have hs := hW0.size
  refine ⟨hW0.grew.alloc _, ?_, ?_, ?_, ?_, ?_⟩
  · rw [← hs]; exact heap_alloc_new _ _
  · rw [World.cell?_of_block (w := W0) (Below.heap_alloc _ _ _ (by simp; omega))]; exact h6
  · rw [World.cell?_of_block (w := W0) (Below.heap_alloc _ _ _ (by simp; omega))]; exact hxo
  · rw [World.cell?_of_block (w := W0) (Below.heap_alloc _ _ _ (by simp; omega))]; exact h10
  · rw [World.size_alloc, hs]

/-- 'PushFront'. -/
theorem push_any {C p : Nat} {es : List Nat} (w : World) (h : Ring C es w) (hl : es.length ≤ 50000) :
    Calls Yba.prog 22 #[.pointer (some (rt C)), .iface 84 (.pointer (some (nd p)))] w fun r w' => r = .returned (.pointer (some (nd w.heap.size))) ∧ Ring C (w.heap.size :: es) w' ∧ Grew (TL C es) w w' ∧
      w'.cell? ⟨w.heap.size, 3, none⟩ = some (.iface 84 (.pointer (some (nd p)))) ∧ w'.heap.size = w.heap.size + 1 := by
  have hC := h.rC.lt
  have hnd := h.nod
  have hsz : ∀ x ∈ es, x < w.heap.size := fun x hx => (h.rows x hx).lt
  have hnew : (C :: w.heap.size :: es).Nodup := by
    rw [List.nodup_cons] at hnd ⊢
    refine ⟨?_, List.nodup_cons.2 ⟨fun hx => by have := hsz _ hx; omega, hnd.2⟩⟩
    intro hx
    rcases List.mem_cons.1 hx with h1 | h1
    · omega
    · exact hnd.1 h1
  rcases he : es with _ | ⟨nb, es1⟩
  · subst he
    obtain ⟨c6, u7, c7⟩ := h.fresh rfl
    have c10 : w.cell? ⟨C, 10, none⟩ = some (.int .i64 0) := h.len
    refine (push_first C p u7 w c6 c7 c10 h.rC.frozen hC (by omega)).mono ?_
    rintro r w' ⟨rfl, hw⟩
    have g6 : Has w C 6 := ⟨_, c6⟩
    have g7 : Has w C 7 := ⟨_, c7⟩
    have g10 : Has w C 10 := ⟨_, c10⟩
    obtain ⟨k1, k2, k3, k4, k5, k6⟩ := ps_world (xb := C) (xo := 7) (n := 1) (.inr rfl) hC (by
      refine Wr.setCell ?_ ?_ _
      refine Wr.setCell ?_ ?_ _
      refine Wr.setCell ?_ ?_ _
      refine Wr.setCell ?_ ?_ _
      refine Wr.setCell ?_ ?_ _
      refine Wr.setCell ?_ ?_ _
      · exact Wr.refl _ _
      all_goals simp) (by rw [cell_set_ne (by omega), cell_set_ne (by omega)]; exact cell_set_same' g6.set.set.set _) (by rw [cell_set_ne (by omega)]; exact cell_set_same' g7.set.set.set.set _) (cell_set_same' g10.set.set.set.set.set _) hC hw
    refine ⟨rfl, ⟨k1.row _ _ h.rC, ?_, hnew, k5, ?_, ?_, ?_⟩, k1.mono ?_, ?_, k6⟩
    · intro x hx; simp at hx; subst hx; exact ⟨_, k2⟩
    · intro x hx; simp at hx; subst hx; rw [cell_of_row _ _ _ _ _ _ k2]; rfl
    · intro h0; cases h0
    · intro _
      exact ⟨⟨k3, by show World.cell? _ ⟨w.heap.size, 1, none⟩ = _; rw [cell_of_row _ _ _ _ _ _ k2]; rfl⟩, ⟨by show World.cell? _ ⟨w.heap.size, 0, none⟩ = _; rw [cell_of_row _ _ _ _ _ _ k2]; rfl, k4⟩, trivial⟩
    · intro x o _ ht
      rcases ht with ⟨h1, h2⟩ | ⟨rfl, rfl⟩
      · exact .inl ⟨h1, by omega⟩
      · exact .inl ⟨rfl, by omega⟩
    · rw [cell_of_row _ _ _ _ _ _ k2]; rfl
  · subst he
    have hnC : nb ≠ C := h.ne (by simp)
    have hfr := h.front
    have hnl := hsz nb (by simp)
    have g6 : Has w C 6 := ⟨_, hfr.1⟩
    have gx : Has w nb 1 := ⟨_, hfr.2⟩
    have g10 : Has w C 10 := ⟨_, h.len⟩
    refine (push_more C nb p (nb :: es1).length _ w (by omega) (by simp at hl ⊢; omega) hfr.1 h.len hfr.2 h.rC.frozen (h.rows nb (by simp)).frozen hnC hnC.symm hC hnl (by omega) (by omega)).mono ?_
    rintro r w' ⟨rfl, hw⟩
    obtain ⟨k1, k2, k3, k4, k5, k6⟩ := ps_world (xb := nb) (xo := 1) (.inl hnC) hC (by
      refine Wr.setCell ?_ ?_ _
      refine Wr.setCell ?_ ?_ _
      refine Wr.setCell ?_ ?_ _
      · exact Wr.refl _ _
      all_goals simp) (by rw [cell_set_ne (by omega), cell_set_ne (by omega)]; exact cell_set_same' g6 _) (by rw [cell_set_ne (by omega)]; exact cell_set_same' gx.set _) (cell_set_same' g10.set.set _) hnl hw
    have hold : ∀ x ∈ nb :: es1, x ≠ C := fun x hx => h.ne hx
    refine ⟨rfl, ⟨k1.row _ _ h.rC, ?_, hnew, by rw [k5]; simp, ?_, ?_, ?_⟩, k1.mono ?_, ?_, k6⟩
    · intro x hx
      rcases List.mem_cons.1 hx with rfl | hx
      · exact ⟨_, k2⟩
      · exact k1.row _ _ (h.rows x hx)
    · intro x hx
      rcases List.mem_cons.1 hx with rfl | hx
      · rw [cell_of_row _ _ _ _ _ _ k2]; rfl
      · have := hold x hx
        rw [k1.cell x 2 (hsz x hx) (by omega)]; exact h.lst x hx
    · intro h0; cases h0
    · intro _
      have hr := h.ring (by simp)
      refine ⟨⟨k3, by show World.cell? _ ⟨w.heap.size, 1, none⟩ = _; rw [cell_of_row _ _ _ _ _ _ k2]; rfl⟩, ⟨by show World.cell? _ ⟨w.heap.size, 0, none⟩ = _; rw [cell_of_row _ _ _ _ _ _ k2]; rfl, k4⟩, ?_⟩
      have h2 : Ch w ((nb :: es1).map nd ++ [rt C]) := hr.2
      refine h2.keep ?_ ?_
      · intro x hx
        rw [List.dropLast_concat] at hx
        obtain ⟨a, ha, rfl⟩ := List.mem_map.1 hx
        have := hold a ha
        exact k1.cell a 0 (hsz a ha) (by omega)
      · intro x hx
        simp only [List.map_cons, List.cons_append, List.tail_cons, List.mem_append, List.mem_map, List.mem_singleton] at hx
        rcases hx with ⟨a, ha, rfl⟩ | rfl
        · have q1 := hold a (by simp [ha])
          have q2 : a ≠ nb := fun e1 => (List.nodup_cons.1 (List.nodup_cons.1 hnd).2).1 (e1 ▸ ha)
          exact k1.cell a 1 (hsz a (by simp [ha])) (by omega)
        · exact k1.cell C 7 hC (by omega)
    · intro x o _ ht
      rcases ht with ⟨h1, h2⟩ | ⟨rfl, rfl⟩
      · exact .inl ⟨h1, by omega⟩
      · exact .inr ⟨by simp, by omega⟩
    · rw [cell_of_row _ _ _ _ _ _ k2]; rfl

end Go.Proofs.Ybulkbgci
