/-
  The cache: its state in memory; 'get'.
-/
import Derived.Test.YbulkbgciRing
import Derived.Test.YbulkbgciMap
import Derived.Test.YbulkbgciLocks
import Derived.Conc.MuLone
import Derived.Defers
namespace Go.Proofs.Ybulkbgci
open Go.RowKit Go.MuLone
set_option linter.unusedVariables false

/-- A part that the cache holds: its element's block, its own block, its key, its value, its size. -/
structure Ent where
  e : Nat
  p : Nat
  k : Int × Int × Int
  v : Int
  s : Int

/-- At a key: the block of its element. -/
def at' (L : List Ent) (k : Int × Int × Int) : Option Nat := (L.find? (fun x => decide (x.k = k))).map Ent.e

theorem at_mem {L : List Ent} (hp : L.Pairwise (fun x y => x.k ≠ y.k)) {x : Ent} (hx : x ∈ L) : at' L x.k = some x.e := by
  induction L with
  | nil => simp at hx
  | cons y L ih =>
    obtain ⟨h1, h2⟩ := List.pairwise_cons.1 hp
    rcases List.mem_cons.1 hx with rfl | hx
    · simp [at']
    · have hne := h1 x hx
      have := ih h2 hx
      simpa [at', List.find?_cons, hne] using this
theorem at_none {L : List Ent} {k : Int × Int × Int} (h : ∀ x ∈ L, x.k ≠ k) : at' L k = none := by
  simp only [at', Option.map_eq_none_iff, List.find?_eq_none]
  intro x hx
  simpa using h x hx
theorem at_congr {L L' : List Ent} (hp : L.Pairwise (fun x y => x.k ≠ y.k)) (hp' : L'.Pairwise (fun x y => x.k ≠ y.k)) (h : ∀ x, x ∈ L ↔ x ∈ L') : at' L = at' L' := by
  funext k
  by_cases hk : ∃ x ∈ L, x.k = k
  · obtain ⟨x, hx, rfl⟩ := hk
    rw [at_mem hp hx, at_mem hp' ((h x).1 hx)]
  · rw [at_none (fun x hx e => hk ⟨x, hx, e⟩), at_none (fun x hx e => hk ⟨x, (h x).2 hx, e⟩)]

/-- The cells of a part. -/
structure PartIs (w : World) (x : Ent) : Prop where
  val : w.cell? ⟨x.e, 3, none⟩ = some (.iface 84 (.pointer (some (nd x.p))))
  p0 : w.cell? ⟨x.p, 0, none⟩ = some (.int .u64 x.k.1)
  p1 : w.cell? ⟨x.p, 1, none⟩ = some (.int .i64 x.k.2.1)
  p2 : w.cell? ⟨x.p, 2, none⟩ = some (.int .u8 x.k.2.2)
  p3 : w.cell? ⟨x.p, 3, none⟩ = some (.iface 3 (.int .i64 x.v))
  p4 : w.cell? ⟨x.p, 4, none⟩ = some (.int .i64 x.s)

/-- The cache in block C, its map in block M: mu: the lock's word; sz: the size that it counts; n: a bound on the map's entries; L: the parts, the front first. -/
structure LS (C M : Nat) (lim mu sz : Int) (n : Nat) (L : List Ent) (w : World) : Prop where
  ring : Ring C (L.map Ent.e) w
  mu : w.cell? ⟨C, 0, none⟩ = some (.int .i32 mu)
  lim : w.cell? ⟨C, 2, none⟩ = some (.int .i64 lim)
  sz : w.cell? ⟨C, 3, none⟩ = some (.int .i64 sz)
  prt : w.cell? ⟨C, 5, none⟩ = some (.map (some M))
  mp : MapIs w M n (at' L)
  ent : ∀ x ∈ L, PartIs w x
  pC : ∀ x ∈ L, x.p ≠ C ∧ ∀ y ∈ L, x.p ≠ y.e
  kok : ∀ x ∈ L, KeyOk x.k ∧ 0 ≤ x.s ∧ x.s < 16
  keys : L.Pairwise (fun x y => x.k ≠ y.k)

theorem lt_cell {w : World} {a : Addr} {v : Value} (h : w.cell? a = some v) : a.block < w.heap.size := by
  rcases Nat.lt_or_ge a.block w.heap.size with h1 | h1
  · exact h1
  · have : w.heap[a.block]? = none := by simp [h1]
    simp [World.cell?, this] at h

theorem MapIs.notRow {w : World} {M n : Nat} {f : Int × Int × Int → Option Nat} (h : MapIs w M n f) {b : Nat} {t : TypeId} (hr : Row w b t) : M ≠ b := by
  intro e
  subst e
  obtain ⟨D, ⟨es, cl, h1, _⟩, _⟩ := h
  obtain ⟨cs, hr⟩ := hr
  rw [h1] at hr
  cases hr
theorem MapIs.lt {w : World} {M n : Nat} {f : Int × Int × Int → Option Nat} (h : MapIs w M n f) : M < w.heap.size := by
  obtain ⟨D, ⟨es, cl, h1, _⟩, _⟩ := h
  exact (Array.getElem?_eq_some_iff.1 h1).1

/-- The cells that a method of the cache may write, but for the size and the map. -/
def TC (C : Nat) (es : List Nat) (b o : Nat) : Prop := (b = C ∧ (o = 0 ∨ o = 6 ∨ o = 7 ∨ o = 10)) ∨ (b ∈ es ∧ o < 3)

theorem notTC {C : Nat} {es : List Nat} {w : World} (h : Ring C es w) {o : Nat} (ho : o ≠ 0 ∧ o ≠ 6 ∧ o ≠ 7 ∧ o ≠ 10) : ¬ TC C es C o := by
  intro ht
  rcases ht with ⟨_, h1⟩ | ⟨h1, _⟩
  · omega
  · exact h.ne h1 rfl

theorem LS.next {C M : Nat} {lim mu mu' sz : Int} {n : Nat} {L L' : List Ent} {w w' : World} (h : LS C M lim mu sz n L w) (g : Grew (TC C (L.map Ent.e)) w w') (hL : ∀ x, x ∈ L ↔ x ∈ L') (hr : Ring C (L'.map Ent.e) w') (hmu : w'.cell? ⟨C, 0, none⟩ = some (.int .i32 mu'))
    (hk : L'.Pairwise (fun x y => x.k ≠ y.k)) : LS C M lim mu' sz n L' w' := by
  have hC := h.ring.rC.lt
  have hmM : ∀ o, ¬ TC C (L.map Ent.e) M o := by
    intro o ht
    rcases ht with ⟨h1, _⟩ | ⟨h1, _⟩
    · exact h.mp.notRow h.ring.rC h1
    · exact h.mp.notRow (h.ring.rows M h1) rfl
  refine ⟨hr, hmu, ?_, ?_, ?_, ?_, ?_, ?_, ?_, hk⟩
  · rw [g.cell C 2 hC (notTC h.ring (by omega))]; exact h.lim
  · rw [g.cell C 3 hC (notTC h.ring (by omega))]; exact h.sz
  · rw [g.cell C 5 hC (notTC h.ring (by omega))]; exact h.prt
  · rw [← at_congr h.keys hk hL]
    exact h.mp.blk (g.blk M h.mp.lt hmM)
  · intro x hx
    have hx := (hL x).2 hx
    have hp := h.ent x hx
    have hpl := lt_cell hp.p0
    have hnp : ∀ o, ¬ TC C (L.map Ent.e) x.p o := by
      intro o ht
      rcases ht with ⟨h1, _⟩ | ⟨h1, _⟩
      · exact (h.pC x hx).1 h1
      · obtain ⟨y, hy, e1⟩ := List.mem_map.1 h1
        exact (h.pC x hx).2 y hy e1.symm
    refine ⟨?_, ?_, ?_, ?_, ?_, ?_⟩
    · rw [g.cell x.e 3 (lt_cell hp.val) (by
        intro ht
        rcases ht with ⟨h1, _⟩ | ⟨_, h1⟩
        · exact h.ring.ne (List.mem_map.2 ⟨x, hx, rfl⟩) h1
        · omega)]
      exact hp.val
    · rw [g.cell x.p 0 hpl (hnp 0)]; exact hp.p0
    · rw [g.cell x.p 1 hpl (hnp 1)]; exact hp.p1
    · rw [g.cell x.p 2 hpl (hnp 2)]; exact hp.p2
    · rw [g.cell x.p 3 hpl (hnp 3)]; exact hp.p3
    · rw [g.cell x.p 4 hpl (hnp 4)]; exact hp.p4
  · intro x hx
    refine ⟨(h.pC x ((hL x).2 hx)).1, fun y hy => (h.pC x ((hL x).2 hx)).2 y ((hL y).2 hy)⟩
  · intro x hx; exact h.kok x ((hL x).2 hx)

theorem TC_of_TL {C : Nat} {es : List Nat} {b o : Nat} (h : TL C es b o) : TC C es b o := by
  rcases h with ⟨h1, h2⟩ | h1
  · exact .inl ⟨h1, by omega⟩
  · exact .inr h1
theorem Ring.drewN {C : Nat} {es : List Nat} {w : World} (h : Ring C es w) (n : Nat) : Ring C es (w.drewN n) := h.keep (fun _ _ hr => hr) (fun _ _ _ => rfl)

theorem Ring.grew {C : Nat} {es : List Nat} {w w' : World} {T : Nat → Nat → Prop} (h : Ring C es w) (g : Grew T w w') (hT : ∀ b o, TL C es b o → ¬ T b o) : Ring C es w' := by
  refine h.keep g.row (fun b o hb => g.cell b o ?_ (hT b o hb))
  rcases hb with ⟨rfl, _⟩ | ⟨hb, _⟩
  · exact h.rC.lt
  · exact (h.rows b hb).lt

/-- '.(*cachedPart)' at a part; '.(int)' at an int. -/
theorem assert84 (a : Addr) (w : World) : (Instr.typeAssert (.iface 84 (.pointer (some a))) 20 84 false).run Yba.prog w = .ok (.pointer (some a)) w := by
  simp [Instr.typeAssert, run_underlying Yba.underlying84]
theorem assert3 (v : Int) (w : World) : (Instr.typeAssert (.iface 3 (.int .i64 v)) 20 3 true).run Yba.prog w = .ok (.tuple #[.int .i64 v, .bool true]) w := by
  simp [Instr.typeAssert, run_underlying Yba.underlying3]

/-- The key boxed and the lock taken. -/
structure Opened (C M : Nat) (lim sz : Int) (n : Nat) (L : List Ent) (ko ka kk : Int) (w w2 : World) : Prop where
  g : Grew (TC C (L.map Ent.e)) w w2
  ls : LS C M lim 1 sz n L w2
  k0 : w2.cell? ⟨w.heap.size, 0, none⟩ = some (.int .u64 ko)
  k1 : w2.cell? ⟨w.heap.size, 1, none⟩ = some (.int .i64 ka)
  k2 : w2.cell? ⟨w.heap.size, 2, none⟩ = some (.int .u8 kk)
  size : w2.heap.size = w.heap.size + 1

theorem opened {C M : Nat} {lim sz : Int} {n : Nat} {L : List Ent} {ko ka kk : Int} {w w2 : World} (h : LS C M lim 0 sz n L w)
    (hw : w2 = (w.alloc (.cells #[.int .u64 ko, .int .i64 ka, .int .u8 kk] 51)).setCell ⟨C, 0, none⟩ (.int .i32 1)) : Opened C M lim sz n L ko ka kk w w2 := by
  have hC := h.ring.rC.lt
  have g : Grew (TC C (L.map Ent.e)) w w2 := by
    rw [hw]
    exact ((Grew.refl _ w).alloc _).setCell (.inl ⟨rfl, by omega⟩) _
  have hb : w2.heap[w.heap.size]? = some (.cells #[.int .u64 ko, .int .i64 ka, .int .u8 kk] 51 (0, 0)) := by
    rw [hw, Below.heap_setCell _ _ _ _ (by simp; omega)]; exact heap_alloc_new _ _
  have c0 : w2.cell? ⟨C, 0, none⟩ = some (.int .i32 1) := by
    rw [hw]
    exact cell_set_same (u := .int .i32 0) (by rw [World.cell?_of_block (w := w) (Below.heap_alloc _ _ _ (by simpa using hC))]; exact h.mu) _
  refine ⟨g, ?_, by rw [cell_of_row _ _ _ _ _ _ hb]; rfl, by rw [cell_of_row _ _ _ _ _ _ hb]; rfl, by rw [cell_of_row _ _ _ _ _ _ hb]; rfl, by rw [hw]; simp [World.setCell]⟩
  refine h.next g (fun _ => Iff.rfl) ?_ c0 h.keys
  refine h.ring.keep g.row (fun b o hb => ?_)
  rw [hw]
  rcases hb with ⟨rfl, ho⟩ | ⟨hb, ho⟩
  · rw [cell_set_ne (by omega), World.cell?_of_block (w := w) (Below.heap_alloc _ _ _ (by simpa using hC))]
  · have := h.ring.ne hb
    rw [cell_set_ne (by omega), World.cell?_of_block (w := w) (Below.heap_alloc _ _ _ (by simpa using (h.ring.rows b hb).lt))]

/-- The lock given back. -/
theorem LS.unlock {C M : Nat} {lim mu sz : Int} {n : Nat} {L : List Ent} {w : World} (h : LS C M lim mu sz n L w) : LS C M lim 0 sz n L (w.setCell ⟨C, 0, none⟩ (.int .i32 0)) := by
  have g : Grew (TC C (L.map Ent.e)) w (w.setCell ⟨C, 0, none⟩ (.int .i32 0)) := (Grew.refl _ w).setCell (.inl ⟨rfl, by omega⟩) _
  refine h.next g (fun _ => Iff.rfl) ?_ (cell_set_same h.mu _) h.keys
  refine h.ring.keep g.row (fun b o hb => ?_)
  rcases hb with ⟨rfl, ho⟩ | ⟨hb, ho⟩
  · rw [cell_set_ne (by omega)]
  · have := h.ring.ne hb
    rw [cell_set_ne (by omega)]
theorem LS.drewN {C M : Nat} {lim mu sz : Int} {n : Nat} {L : List Ent} {w : World} (h : LS C M lim mu sz n L w) (q : Nat) : LS C M lim mu sz n L (w.drewN q) :=
  h.next ((Grew.refl _ w).drewN q) (fun _ => Iff.rfl) (h.ring.drewN q) h.mu h.keys

set_option maxRecDepth 100000 in
set_option maxHeartbeats 2000000 in
theorem get_miss (C M : Nat) (lim sz : Int) (n : Nat) (L : List Ent) (ko ka kk : Int) (w : World) (h : LS C M lim 0 sz n L w) (hk : KeyOk (ko, ka, kk)) (hm : ∀ x ∈ L, x.k ≠ (ko, ka, kk)) :
    Calls Yba.prog 14 #[.pointer (some ⟨C, 0, none⟩), .agg #[.int .u64 ko, .int .i64 ka, .int .u8 kk]] w fun r w' => r = .returned (.tuple #[.nilIface, .bool false]) ∧ LS C M lim 0 sz n L w' ∧ Grew (TC C (L.map Ent.e)) w w' := by
  have hC := h.ring.rC.lt
  have HL : Hid (LS C M lim 0 sz n L w) := h
  have c0 := h.mu
  have f0 := h.ring.rC.frozen 0
  clear h
  go_enter_defers Yba.func14, Yba.ntmps14
  go_wp2_with (go_at_call 18; refine (lock_free Yba.muLib ⟨C, 0, none⟩ _ ?_ ?_).mono ?_)
  · rw [World.cell?_alloc_past _ _ _ hC]; exact c0
  · rw [World.frozen?_alloc_past _ _ _ hC]; exact f0
  rintro e w2 ⟨rfl, hw⟩
  have HO : Hid (Opened C M lim sz n L ko ka kk w w2) := opened HL.out hw
  clear hw c0 f0 HL
  have c5 := HO.out.ls.prt
  have k0 := HO.out.k0
  have k1 := HO.out.k1
  have k2 := HO.out.k2
  have hlk : ∀ q, (Instr.lookup 65 (.map (some M)) (.agg #[.int .u64 ko, .int .i64 ka, .int .u8 kk]) true).run Yba.prog (w2.drewN q) = .ok (.tuple #[.pointer none, .bool false]) (w2.drewN q) := by
    intro q
    have := ((HO.out.ls.drewN q).mp).look hk
    rw [at_none hm] at this
    exact this
  go_wp2
  go_quiet (fail)
  go_wp2
  refine leaves_cons (f := 9) (args := #[.pointer (some ⟨C, 0, none⟩)]) (by simp) (by simp [go_sem]) ?_
  refine (unlock_deferred Yba.muLib ⟨C, 0, none⟩ .returning (w2.drewN nq) HO.out.ls.mu (HO.out.ls.ring.rC.frozen 0)).mono ?_
  rintro e u' w'' ⟨rfl, rfl, rfl⟩
  exact ⟨_, results_tmp2 rfl _ _ _, rfl, (HO.out.ls.drewN nq).unlock, (HO.out.g.drewN nq).setCell (.inl ⟨rfl, by omega⟩) _⟩

theorem pair_perm {L L' : List Ent} (h : L.Pairwise (fun x y => x.k ≠ y.k)) (hp : L.Perm L') : L'.Pairwise (fun x y => x.k ≠ y.k) := hp.pairwise h (fun {_ _} hne => Ne.symm hne)

set_option maxRecDepth 100000 in
set_option maxHeartbeats 2000000 in
theorem get_hit (C M : Nat) (lim sz : Int) (n : Nat) (A B : List Ent) (x : Ent) (ko ka kk : Int) (w : World) (h : LS C M lim 0 sz n (A ++ x :: B) w) (hx : x.k = (ko, ka, kk)) :
    Calls Yba.prog 14 #[.pointer (some ⟨C, 0, none⟩), .agg #[.int .u64 ko, .int .i64 ka, .int .u8 kk]] w fun r w' => r = .returned (.tuple #[.iface 3 (.int .i64 x.v), .bool true]) ∧ LS C M lim 0 sz n (x :: (A ++ B)) w' ∧ Grew (TC C ((A ++ x :: B).map Ent.e)) w w' := by
  have hC := h.ring.rC.lt
  have HL : Hid (LS C M lim 0 sz n (A ++ x :: B) w) := h
  have hk : KeyOk (ko, ka, kk) := hx ▸ (h.kok x (by simp)).1
  have c0 := h.mu
  have f0 := h.ring.rC.frozen 0
  clear h
  go_enter_defers Yba.func14, Yba.ntmps14
  go_wp2_with (go_at_call 18; refine (lock_free Yba.muLib ⟨C, 0, none⟩ _ ?_ ?_).mono ?_)
  · rw [World.cell?_alloc_past _ _ _ hC]; exact c0
  · rw [World.frozen?_alloc_past _ _ _ hC]; exact f0
  rintro e w2 ⟨rfl, hw⟩
  have HO : Hid (Opened C M lim sz n (A ++ x :: B) ko ka kk w w2) := opened HL.out hw
  clear hw c0 f0 HL
  have c5 := HO.out.ls.prt
  have k0 := HO.out.k0
  have k1 := HO.out.k1
  have k2 := HO.out.k2
  have hlk : ∀ q, (Instr.lookup 65 (.map (some M)) (.agg #[.int .u64 ko, .int .i64 ka, .int .u8 kk]) true).run Yba.prog (w2.drewN q) = .ok (.tuple #[.pointer (some (nd x.e)), .bool true]) (w2.drewN q) := by
    intro q
    have := ((HO.out.ls.drewN q).mp).look hk
    rw [← hx, at_mem HO.out.ls.keys (by simp)] at this
    rw [← hx] at hk
    rw [hx] at this
    exact this
  have HX : Hid (x.k = (ko, ka, kk)) := hx
  clear hx
  have e2 := HO.out.ls.ring.lst x.e (by simp)
  have e3 := (HO.out.ls.ent x (by simp)).val
  have p3 := (HO.out.ls.ent x (by simp)).p3
  go_wp2
  go_quiet (fail)
  go_wp2_with fail
  have hR : Ring C (A.map Ent.e ++ x.e :: B.map Ent.e) (w2.drewN nq) := by
    have := (HO.out.ls.drewN nq).ring
    rwa [List.map_append, List.map_cons] at this
  refine (move_any (w2.drewN nq) hR).mono ?_
  rintro r w3 ⟨rfl, hR3, hW3⟩
  have hgL : Grew (TC C ((A ++ x :: B).map Ent.e)) (w2.drewN nq) w3 := by
    refine hW3.grew.mono (fun b o _ ht => TC_of_TL ?_)
    rw [List.map_append, List.map_cons]; exact ht
  have hls3 : LS C M lim 1 sz n (x :: (A ++ B)) w3 := by
    refine (HO.out.ls.drewN nq).next hgL ?_ ?_ ?_ ?_
    · intro y; simp only [List.mem_append, List.mem_cons]
      constructor
      · rintro (h1 | h1 | h1)
        · exact .inr (.inl h1)
        · exact .inl h1
        · exact .inr (.inr h1)
      · rintro (h1 | h1 | h1)
        · exact .inr (.inl h1)
        · exact .inl h1
        · exact .inr (.inr h1)
    · simpa using hR3
    · rw [hW3.cell C 0 (by
        intro ht
        rcases ht with ⟨_, h1⟩ | ⟨h1, _⟩
        · omega
        · exact hR.ne h1 rfl)]
      exact HO.out.ls.mu
    · exact pair_perm HO.out.ls.keys List.perm_middle
  have H3 : Hid (LS C M lim 1 sz n (x :: (A ++ B)) w3 ∧ Grew (TC C ((A ++ x :: B).map Ent.e)) (w2.drewN nq) w3) := ⟨hls3, hgL⟩
  have e3' := (hls3.ent x (by simp)).val
  have p3' := (hls3.ent x (by simp)).p3
  clear hls3 hgL hR3 hW3 hR e2 e3 p3 hlk c5 k0 k1 k2
  have hta := assert84
  go_wp2
  refine leaves_cons (f := 9) (args := #[.pointer (some ⟨C, 0, none⟩)]) (by simp) (by simp [go_sem]) ?_
  refine (unlock_deferred Yba.muLib ⟨C, 0, none⟩ .returning w3 H3.out.1.mu (H3.out.1.ring.rC.frozen 0)).mono ?_
  rintro e u' w'' ⟨rfl, rfl, rfl⟩
  exact ⟨_, results_tmp2 rfl _ _ _, rfl, H3.out.1.unlock, ((HO.out.g.drewN nq).trans H3.out.2).setCell (.inl ⟨rfl, by omega⟩) _⟩
end Go.Proofs.Ybulkbgci
