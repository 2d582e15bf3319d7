/-
  The cache: 'remove', 'put'.
-/
import Derived.Test.YbulkbgciCache
import Derived.Deep.RegionHeld3
namespace Go.Proofs.Ybulkbgci
open Go.RowKit Go.MuLone
set_option linter.unusedVariables false

/-- The blocks that a method of the cache may write. -/
def TB (C M : Nat) (es : List Nat) (b _o : Nat) : Prop := b = C ∨ b = M ∨ b ∈ es

theorem TB_of_TL {C M : Nat} {es : List Nat} {b o : Nat} (h : TL C es b o) : TB C M es b o := by
  rcases h with ⟨h1, _⟩ | ⟨h1, _⟩
  · exact .inl h1
  · exact .inr (.inr h1)
theorem TB_of_TC {C M : Nat} {es : List Nat} {b o : Nat} (h : TC C es b o) : TB C M es b o := by
  rcases h with ⟨h1, _⟩ | ⟨h1, _⟩
  · exact .inl h1
  · exact .inr (.inr h1)

/-- A map turned: everything else stands. -/
theorem turned_grew {C M : Nat} {es : List Nat} {w w' : World} (h : w.mapTurned w' M) : Grew (fun b _ => b = M) w w' := by
  have g := h.grown
  obtain ⟨a1, a2, a3, a4, hb, rfl⟩ := h
  refine ⟨g.os, g.tape, g.output, g.size, fun b o hb' ht => World.cell?_of_block (g.block b hb' (fun e => ht (Option.some.inj e))), fun b hb' ht => g.block b hb' (fun e => ht 0 (Option.some.inj e)), fun b t hr => ?_⟩
  by_cases e : b = M
  · subst e
    obtain ⟨cs, hr⟩ := hr
    rw [hb] at hr
    cases hr
  · obtain ⟨cs, hr⟩ := hr
    exact ⟨cs, (g.block b (Array.getElem?_eq_some_iff.1 hr).1 (fun e1 => e (Option.some.inj e1))).trans hr⟩

theorem PartIs.keep {w w' : World} {x : Ent} (h : PartIs w x) (he : w'.cell? ⟨x.e, 3, none⟩ = w.cell? ⟨x.e, 3, none⟩) (hp : ∀ o, w'.cell? ⟨x.p, o, none⟩ = w.cell? ⟨x.p, o, none⟩) : PartIs w' x :=
  ⟨he.trans h.val, (hp 0).trans h.p0, (hp 1).trans h.p1, (hp 2).trans h.p2, (hp 3).trans h.p3, (hp 4).trans h.p4⟩

/-- The map without its last part. -/
theorem at_last {A : List Ent} {x : Ent} (hp : (A ++ [x]).Pairwise (fun x y => x.k ≠ y.k)) : (fun k' => if k' = x.k then none else at' (A ++ [x]) k') = at' A := by
  obtain ⟨h1, _, h3⟩ := List.pairwise_append.1 hp
  funext k
  by_cases hk : k = x.k
  · subst hk
    rw [if_pos rfl, at_none (fun y hy => h3 y hy x (by simp))]
  · rw [if_neg hk]
    by_cases hin : ∃ y ∈ A, y.k = k
    · obtain ⟨y, hy, rfl⟩ := hin
      rw [at_mem hp (by simp [hy]), at_mem h1 hy]
    · rw [at_none (fun y hy e => hin ⟨y, hy, e⟩), at_none]
      intro y hy e
      rcases List.mem_append.1 hy with hy | hy
      · exact hin ⟨y, hy, e⟩
      · simp at hy; subst hy; exact hk e.symm

/-- The last part is gone from list and map, and its size taken off. -/
theorem LS.removed {C M : Nat} {lim mu sz sz' : Int} {n : Nat} {A : List Ent} {x : Ent} {w w1 w2 : World} {q1 q2 : Nat} (h : LS C M lim mu sz n (A ++ [x]) w) (hr : Ring C (A.map Ent.e) w1) (hw : Wr (TL C ((A ++ [x]).map Ent.e)) w w1)
    (hm : MapIs w2 M n (fun k' => if k' = x.k then none else at' (A ++ [x]) k')) (ht : (w1.drewN q1).mapTurned w2 M) :
    LS C M lim mu sz' n A ((w2.setCell ⟨C, 3, none⟩ (.int .i64 sz')).drewN q2) ∧ Grew (TB C M ((A ++ [x]).map Ent.e)) w ((w2.setCell ⟨C, 3, none⟩ (.int .i64 sz')).drewN q2) := by
  have hC := h.ring.rC.lt
  have hMC : M ≠ C := h.mp.notRow h.ring.rC
  have hMe : ∀ y ∈ A ++ [x], M ≠ y.e := fun y hy => h.mp.notRow (h.ring.rows y.e (List.mem_map.2 ⟨y, hy, rfl⟩))
  have hpM : ∀ y ∈ A ++ [x], y.p ≠ M := by
    intro y hy e
    have h0 := (h.ent y hy).p0
    rw [e] at h0
    obtain ⟨D, ⟨es, cl, h1, _⟩, _⟩ := h.mp
    simp [World.cell?, h1] at h0
  have hs1 := hw.size
  have gt := turned_grew (C := C) (es := []) ht
  -- a cell of a block other than M, in the last world
  have c : ∀ b o, b < w.heap.size → b ≠ M → ¬ (b = C ∧ o = 3) → ((w2.setCell ⟨C, 3, none⟩ (.int .i64 sz')).drewN q2).cell? ⟨b, o, none⟩ = w1.cell? ⟨b, o, none⟩ := by
    intro b o hb hne hc
    show (w2.setCell ⟨C, 3, none⟩ (.int .i64 sz')).cell? ⟨b, o, none⟩ = _
    rw [cell_set_ne (fun e => hc ⟨e.1.symm, e.2.symm⟩), gt.cell b o (by show b < w1.heap.size; omega) hne]
    rfl
  have rw' : ∀ b t, Row w b t → Row ((w2.setCell ⟨C, 3, none⟩ (.int .i64 sz')).drewN q2) b t := fun b t hb => (gt.row b t (hw.row b t hb)).setCell _ _ _
  have rw1 : ∀ b t, Row w1 b t → Row ((w2.setCell ⟨C, 3, none⟩ (.int .i64 sz')).drewN q2) b t := fun b t hb => (gt.row b t hb).setCell _ _ _
  have nTL : ∀ o, o ≠ 6 → o ≠ 7 → o ≠ 10 → ¬ TL C ((A ++ [x]).map Ent.e) C o := by
    intro o h1 h2 h3 ht
    rcases ht with ⟨_, h4⟩ | ⟨h4, _⟩
    · omega
    · exact h.ring.ne h4 rfl
  refine ⟨⟨?_, ?_, ?_, ?_, ?_, ?_, ?_, ?_, ?_, ?_⟩, ?_⟩
  · refine hr.keep rw1 (fun b o hb => c b o ?_ ?_ ?_)
    · rcases hb with ⟨rfl, _⟩ | ⟨hb, _⟩
      · exact hC
      · have := (hr.rows b hb).lt; omega
    · rcases hb with ⟨rfl, _⟩ | ⟨hb, _⟩
      · exact hMC.symm
      · obtain ⟨y, hy, rfl⟩ := List.mem_map.1 hb
        exact (hMe y (by simp [hy])).symm
    · rcases hb with ⟨rfl, ho⟩ | ⟨hb, _⟩
      · omega
      · exact fun e => hr.ne hb e.1
  · rw [c C 0 hC hMC.symm (by omega), hw.cell C 0 (nTL 0 (by omega) (by omega) (by omega))]; exact h.mu
  · rw [c C 2 hC hMC.symm (by omega), hw.cell C 2 (nTL 2 (by omega) (by omega) (by omega))]; exact h.lim
  · show (w2.setCell ⟨C, 3, none⟩ (.int .i64 sz')).cell? ⟨C, 3, none⟩ = _
    refine cell_set_same (u := .int .i64 sz) ?_ _
    rw [gt.cell C 3 (by show C < w1.heap.size; omega) hMC.symm]
    exact (hw.cell C 3 (nTL 3 (by omega) (by omega) (by omega))).trans h.sz
  · rw [c C 5 hC hMC.symm (by omega), hw.cell C 5 (nTL 5 (by omega) (by omega) (by omega))]; exact h.prt
  · rw [← at_last h.keys]
    refine hm.blk ?_
    exact Below.heap_setCell w2 ⟨C, 3, none⟩ _ M hMC
  · intro y hy
    have hy' : y ∈ A ++ [x] := by simp [hy]
    have hpt := h.ent y hy'
    refine hpt.keep ?_ (fun o => ?_)
    · rw [c y.e 3 (lt_cell hpt.val) (hMe y hy').symm (fun e => h.ring.ne (List.mem_map.2 ⟨y, hy', rfl⟩) e.1)]
      refine hw.cell y.e 3 ?_
      intro ht
      rcases ht with ⟨h1, _⟩ | ⟨_, h1⟩
      · exact h.ring.ne (List.mem_map.2 ⟨y, hy', rfl⟩) h1
      · omega
    · rw [c y.p o (lt_cell hpt.p0) (hpM y hy') (fun e => (h.pC y hy').1 e.1)]
      refine hw.cell y.p o ?_
      intro ht
      rcases ht with ⟨h1, _⟩ | ⟨h1, _⟩
      · exact (h.pC y hy').1 h1
      · obtain ⟨z, hz, e1⟩ := List.mem_map.1 h1
        exact (h.pC y hy').2 z hz e1.symm
  · intro y hy
    exact ⟨(h.pC y (by simp [hy])).1, fun z hz => (h.pC y (by simp [hy])).2 z (by simp [hz])⟩
  · intro y hy; exact h.kok y (by simp [hy])
  · exact (List.pairwise_append.1 h.keys).1
  · refine Grew.drewN (Grew.setCell ?_ (.inl rfl) _) _
    refine (hw.grew.mono (fun b o _ ht => TB_of_TL ht)).trans ?_
    refine ((Grew.refl _ w1).drewN q1).trans ?_
    exact gt.mono (fun b o _ e => .inr (.inl e))

set_option maxRecDepth 100000 in
set_option maxHeartbeats 2000000 in
/-- 'c.remove(e)', e the last of two or more. -/
theorem remove_part (C M : Nat) (lim sz : Int) (n : Nat) (A : List Ent) (x : Ent) (w : World) (h : LS C M lim 1 sz n (A ++ [x]) w) (hA : A ≠ []) (hl : A.length ≤ 50000) (hs0 : x.s ≤ sz) (hs1 : sz ≤ 1000000) :
    Calls Yba.prog 24 #[.pointer (some ⟨C, 0, none⟩), .pointer (some (nd x.e))] w fun r w' => r = .returned (.tuple #[]) ∧ LS C M lim 1 (sz - x.s) n A w' ∧ Grew (TB C M ((A ++ [x]).map Ent.e)) w w' := by
  have hR : Ring C (A.map Ent.e ++ [x.e]) w := by
    have := h.ring
    rwa [List.map_append, List.map_cons, List.map_nil] at this
  have hpt := h.ent x (by simp)
  have hkx := h.kok x (by simp)
  have hta := assert84
  go_enter Yba.func24, Yba.ntmps24
  go_wp2_with fail
  refine (remove_any w hR (by simpa using hA) (by simpa using hl) hpt.val).mono ?_
  rintro r w1 ⟨rfl, hR1, hW1⟩
  have hW1' : Wr (TL C ((A ++ [x]).map Ent.e)) w w1 := by rw [List.map_append, List.map_cons, List.map_nil]; exact hW1
  have HH : Hid (LS C M lim 1 sz n (A ++ [x]) w ∧ Ring C (A.map Ent.e) w1 ∧ Wr (TL C ((A ++ [x]).map Ent.e)) w w1) := ⟨h, hR1, hW1'⟩
  have nTL : ∀ o, o ≠ 6 → o ≠ 7 → o ≠ 10 → ¬ TL C ((A ++ [x]).map Ent.e) C o := by
    intro o h1 h2 h3 ht
    rcases ht with ⟨_, h4⟩ | ⟨h4, _⟩
    · omega
    · exact h.ring.ne h4 rfl
  have nTp : ∀ o, ¬ TL C ((A ++ [x]).map Ent.e) x.p o := by
    intro o ht
    rcases ht with ⟨h1, _⟩ | ⟨h1, _⟩
    · exact (h.pC x (by simp)).1 h1
    · obtain ⟨z, hz, e1⟩ := List.mem_map.1 h1
      exact (h.pC x (by simp)).2 z hz e1.symm
  have c5 : w1.cell? ⟨C, 5, none⟩ = some (.map (some M)) := (hW1'.cell C 5 (nTL 5 (by omega) (by omega) (by omega))).trans h.prt
  have c3 : w1.cell? ⟨C, 3, none⟩ = some (.int .i64 sz) := (hW1'.cell C 3 (nTL 3 (by omega) (by omega) (by omega))).trans h.sz
  have p0 := (hW1'.cell x.p 0 (nTp 0)).trans hpt.p0
  have p1 := (hW1'.cell x.p 1 (nTp 1)).trans hpt.p1
  have p2 := (hW1'.cell x.p 2 (nTp 2)).trans hpt.p2
  have p4 := (hW1'.cell x.p 4 (nTp 4)).trans hpt.p4
  have hm1 : MapIs w1.drew M n (at' (A ++ [x])) := h.mp.blk (hW1'.blk M (by
    intro o ht
    rcases ht with ⟨h1, _⟩ | ⟨h1, _⟩
    · exact h.mp.notRow h.ring.rC h1
    · exact h.mp.notRow (h.ring.rows M h1) rfl))
  obtain ⟨w2, hdel, hm2, ht2⟩ := hm1.del hkx.1 0
  have c3' : w2.cell? ⟨C, 3, none⟩ = some (.int .i64 sz) := by
    rw [(turned_grew (C := C) (es := []) ht2).cell C 3 (by exact lt_cell c3) (fun e => (h.mp.notRow h.ring.rC) e.symm)]; exact c3
  have p4' : w2.cell? ⟨x.p, 4, none⟩ = some (.int .i64 x.s) := by
    rw [(turned_grew (C := C) (es := []) ht2).cell x.p 4 (by exact lt_cell p4) (by
      intro e
      obtain ⟨D, ⟨es, cl, h1, _⟩, _⟩ := h.mp
      have h0 := hpt.p0
      rw [e] at h0
      simp [World.cell?, h1] at h0)]
    exact p4
  have f3' : w2.frozen? ⟨C, 3, none⟩ = false := ((turned_grew (C := C) (es := []) ht2).row C 78 (hW1'.row C 78 h.ring.rC)).frozen 3
  have HM : Hid (MapIs w2 M n (fun k' => if k' = x.k then none else at' (A ++ [x]) k') ∧ w1.drew.mapTurned w2 M) := ⟨hm2, ht2⟩
  obtain ⟨⟨kx1, kx2⟩, hx0, hx1⟩ := hkx
  have hdel' : (Builtin.delete_ #[65, 51] 0 #[.map (some M), .agg #[.int .u64 x.k.1, .int .i64 x.k.2.1, .int .u8 x.k.2.2]]).run Yba.prog w1.drew = .ok (.tuple #[]) w2 := hdel
  clear hdel hm1 hm2 ht2 h hR hpt hR1 hW1 hW1' nTL nTp kx1 kx2
  go_wp2
  go_region
  go_wp2
  go_region
  go_wp2
  go_end0
  exact ⟨rfl, HH.out.1.removed (q1 := 1) (q2 := 1) HH.out.2.1 HH.out.2.2 HM.out.1 HM.out.2⟩

set_option maxRecDepth 100000 in
set_option maxHeartbeats 2000000 in
/-- 'put' at a key that is held: nothing is kept. -/
theorem put_hit (C M : Nat) (lim sz : Int) (n : Nat) (L : List Ent) (x : Ent) (ko ka kk v s : Int) (w : World) (h : LS C M lim 0 sz n L w) (hx : x ∈ L) (hxk : x.k = (ko, ka, kk)) :
    Calls Yba.prog 12 #[.pointer (some ⟨C, 0, none⟩), .agg #[.int .u64 ko, .int .i64 ka, .int .u8 kk], .iface 3 (.int .i64 v), .int .i64 s] w fun r w' => r = .returned (.tuple #[]) ∧ LS C M lim 0 sz n L w' ∧ Grew (TC C (L.map Ent.e)) w w' := by
  have hC := h.ring.rC.lt
  have HL : Hid (LS C M lim 0 sz n L w) := h
  have hk : KeyOk (ko, ka, kk) := hxk ▸ (h.kok x hx).1
  have c0 := h.mu
  have f0 := h.ring.rC.frozen 0
  clear h
  go_enter_defers Yba.func12, Yba.ntmps12
  go_wp2_with (go_at_call 18; refine (lock_free Yba.muLib ⟨C, 0, none⟩ _ ?_ ?_).mono ?_)
  · rw [World.cell?_alloc_past _ _ _ hC]; exact c0
  · rw [World.frozen?_alloc_past _ _ _ hC]; exact f0
  rintro e w2 ⟨rfl, hw⟩
  have HO : Hid (Opened C M lim sz n L ko ka kk w w2) := opened HL.out hw
  clear hw c0 f0 HL
  have c5 := HO.out.ls.prt
  have k0 := HO.out.k0
  have k1 := HO.out.k1
  have k2 := HO.out.k2
  have hlk : ∀ q, (Instr.lookup 65 (.map (some M)) (.agg #[.int .u64 ko, .int .i64 ka, .int .u8 kk]) true).run Yba.prog (w2.drewN q) = .ok (.tuple #[.pointer (some (nd x.e)), .bool true]) (w2.drewN q) := by
    intro q
    have := ((HO.out.ls.drewN q).mp).look hk
    rw [← hxk, at_mem HO.out.ls.keys hx] at this
    rw [hxk] at this
    exact this
  clear hxk hx
  go_wp2
  go_quiet (fail)
  go_wp2
  refine leaves_cons (f := 9) (args := #[.pointer (some ⟨C, 0, none⟩)]) (by simp) (by simp [go_sem]) ?_
  refine (unlock_deferred Yba.muLib ⟨C, 0, none⟩ .returning (w2.drewN nq) HO.out.ls.mu (HO.out.ls.ring.rC.frozen 0)).mono ?_
  rintro e u' w'' ⟨rfl, rfl, rfl⟩
  exact ⟨_, results_none rfl _ _ _, rfl, (HO.out.ls.drewN nq).unlock, (HO.out.g.drewN nq).setCell (.inl ⟨rfl, by omega⟩) _⟩

/-- The sizes of parts, added up. -/
def sm : List Ent → Int
  | [] => 0
  | x :: l => x.s + sm l
theorem sm_append : ∀ (A B : List Ent), sm (A ++ B) = sm A + sm B
  | [], B => by simp [sm]
  | x :: A, B => by simp only [List.cons_append, sm, sm_append A B]; omega
theorem sm_bound : ∀ (L : List Ent), (∀ x ∈ L, 0 ≤ x.s ∧ x.s < 16) → 0 ≤ sm L ∧ sm L ≤ 15 * L.length
  | [], _ => by simp [sm]
  | x :: l, h => by
    have h1 := h x (by simp)
    have h2 := sm_bound l (fun y hy => h y (by simp [hy]))
    simp only [sm, List.length_cons]
    omega

/-- The map with a part more at its head. -/
theorem at_cons (L : List Ent) (x : Ent) : (fun k' => if k' = x.k then some x.e else at' L k') = at' (x :: L) := by
  funext k
  by_cases hk : k = x.k
  · subst hk; simp [at']
  · have hk' : ¬ x.k = k := fun e => hk e.symm
    simp [at', hk, hk']

/-- A part is pushed; the map is told. -/
theorem push_part {C M : Nat} {lim sz : Int} {n : Nat} {L : List Ent} {ko ka kk v s : Int} {w w2 : World} (q : Nat) (hO : Opened C M lim sz n L ko ka kk w w2) (hk : KeyOk (ko, ka, kk)) (hm : ∀ x ∈ L, x.k ≠ (ko, ka, kk)) (hl : L.length ≤ 2000) (hs : 0 ≤ s ∧ s < 16) (hn : n ≤ 100000) :
    Calls Yba.prog 22 #[.pointer (some (rt C)), .iface 84 (.pointer (some ⟨w2.heap.size, 0, none⟩))] ((w2.drewN q).alloc (.cells #[.int .u64 ko, .int .i64 ka, .int .u8 kk, .iface 3 (.int .i64 v), .int .i64 s] 86)) fun r w3 =>
      r = .returned (.pointer (some (nd (w2.heap.size + 1)))) ∧ (w3.cell? ⟨C, 5, none⟩ = some (.map (some M)) ∧ w3.cell? ⟨w.heap.size, 0, none⟩ = some (.int .u64 ko) ∧ w3.cell? ⟨w.heap.size, 1, none⟩ = some (.int .i64 ka) ∧ w3.cell? ⟨w.heap.size, 2, none⟩ = some (.int .u8 kk)) ∧
      ∃ w4, (Instr.mapUpdate 65 (.map (some M)) (.agg #[.int .u64 ko, .int .i64 ka, .int .u8 kk]) (.pointer (some (nd (w2.heap.size + 1))))).run Yba.prog w3 = .ok () w4 ∧
        (w4.cell? ⟨C, 5, none⟩ = some (.map (some M)) ∧ w4.cell? ⟨w.heap.size, 0, none⟩ = some (.int .u64 ko) ∧ w4.cell? ⟨w.heap.size, 1, none⟩ = some (.int .i64 ka) ∧ w4.cell? ⟨w.heap.size, 2, none⟩ = some (.int .u8 kk)) ∧
        LS C M lim 1 sz (n + 1) (⟨w2.heap.size + 1, w2.heap.size, (ko, ka, kk), v, s⟩ :: L) w4 ∧ Grew (TB C M (L.map Ent.e)) w w4 := by
  have h := hO.ls
  have hC2 := h.ring.rC.lt
  have hM2 := h.mp.lt
  have hsz := hO.size
  have hMC : M ≠ C := h.mp.notRow h.ring.rC
  have hMe : ∀ y ∈ L, M ≠ y.e := fun y hy => h.mp.notRow (h.ring.rows y.e (List.mem_map.2 ⟨y, hy, rfl⟩))
  have hkb : ∀ y ∈ L, y.e ≠ w.heap.size := by
    intro y hy e
    have h1 := (h.ring.lst y.e (List.mem_map.2 ⟨y, hy, rfl⟩))
    have h2 := hO.k2
    rw [e] at h1
    rw [h2] at h1
    cases h1
  have hCk : C ≠ w.heap.size := by
    intro e
    have h1 := h.mu
    rw [e, hO.k0] at h1
    cases h1
  have hMk : M ≠ w.heap.size := by
    intro e
    obtain ⟨D, ⟨es, cl, h1, _⟩, _⟩ := h.mp
    have h0 := hO.k0
    rw [← e] at h0
    simp [World.cell?, h1] at h0
  have hs3 : ((w2.drewN q).alloc (.cells #[.int .u64 ko, .int .i64 ka, .int .u8 kk, .iface 3 (.int .i64 v), .int .i64 s] 86)).heap.size = w2.heap.size + 1 := by rw [World.size_alloc]; rfl
  have g1 : Grew (TB C M (L.map Ent.e)) w2 ((w2.drewN q).alloc (.cells #[.int .u64 ko, .int .i64 ka, .int .u8 kk, .iface 3 (.int .i64 v), .int .i64 s] 86)) := ((Grew.refl _ w2).drewN q).alloc _
  have bp : ((w2.drewN q).alloc (.cells #[.int .u64 ko, .int .i64 ka, .int .u8 kk, .iface 3 (.int .i64 v), .int .i64 s] 86)).heap[w2.heap.size]? = some (.cells #[.int .u64 ko, .int .i64 ka, .int .u8 kk, .iface 3 (.int .i64 v), .int .i64 s] 86 (0, 0)) := heap_alloc_new _ _
  have ho : ∀ b, b < w2.heap.size → ((w2.drewN q).alloc (.cells #[.int .u64 ko, .int .i64 ka, .int .u8 kk, .iface 3 (.int .i64 v), .int .i64 s] 86)).heap[b]? = w2.heap[b]? := fun b hb => Below.heap_alloc (w2.drewN q) _ b hb
  generalize (w2.drewN q).alloc (.cells #[.int .u64 ko, .int .i64 ka, .int .u8 kk, .iface 3 (.int .i64 v), .int .i64 s] 86) = W at *
  have hR : Ring C (L.map Ent.e) W := h.ring.keep g1.row (fun b o hb => World.cell?_of_block (ho b (by
    rcases hb with ⟨rfl, _⟩ | ⟨hb, _⟩
    · exact hC2
    · exact (h.ring.rows b hb).lt)))
  refine (push_any (p := w2.heap.size) W hR (by simp; omega)).mono ?_
  rintro r w3 ⟨rfl, hR3, hg3, hv3, hs4⟩
  rw [hs3] at hR3 hv3 hs4
  -- cells that the push leaves alone
  have c3 : ∀ b o, b < w2.heap.size → ¬ TL C (L.map Ent.e) b o → w3.cell? ⟨b, o, none⟩ = w2.cell? ⟨b, o, none⟩ := by
    intro b o hb ht
    rw [hg3.cell b o (by omega) ht, World.cell?_of_block (w := w2) (ho b hb)]
  have nC : ∀ o, o ≠ 6 → o ≠ 7 → o ≠ 10 → ¬ TL C (L.map Ent.e) C o := by
    intro o h1 h2 h3 ht
    rcases ht with ⟨_, h4⟩ | ⟨h4, _⟩
    · omega
    · exact h.ring.ne h4 rfl
  have nk : ∀ o, ¬ TL C (L.map Ent.e) w.heap.size o := by
    intro o ht
    rcases ht with ⟨h1, _⟩ | ⟨h1, _⟩
    · exact hCk h1.symm
    · obtain ⟨y, hy, e1⟩ := List.mem_map.1 h1
      exact hkb y hy e1
  have nM : ∀ o, ¬ TL C (L.map Ent.e) M o := by
    intro o ht
    rcases ht with ⟨h1, _⟩ | ⟨h1, _⟩
    · exact hMC h1
    · obtain ⟨y, hy, e1⟩ := List.mem_map.1 h1
      exact hMe y hy e1.symm
  have hS3 : w3.cell? ⟨C, 5, none⟩ = some (.map (some M)) ∧ w3.cell? ⟨w.heap.size, 0, none⟩ = some (.int .u64 ko) ∧ w3.cell? ⟨w.heap.size, 1, none⟩ = some (.int .i64 ka) ∧ w3.cell? ⟨w.heap.size, 2, none⟩ = some (.int .u8 kk) :=
    ⟨(c3 C 5 hC2 (nC 5 (by omega) (by omega) (by omega))).trans h.prt, (c3 _ 0 (by omega) (nk 0)).trans hO.k0, (c3 _ 1 (by omega) (nk 1)).trans hO.k1, (c3 _ 2 (by omega) (nk 2)).trans hO.k2⟩
  have hm3 : MapIs w3 M n (at' L) := h.mp.blk ((hg3.blk M (by omega) nM).trans (ho M hM2))
  obtain ⟨w4, hup, hm4, ht4⟩ := hm3.put hk (by unfold maxLen; omega) (w2.heap.size + 1)
  have g4 := turned_grew (C := C) (es := []) ht4
  have c4 : ∀ b o, b < w3.heap.size → b ≠ M → w4.cell? ⟨b, o, none⟩ = w3.cell? ⟨b, o, none⟩ := fun b o hb hne => g4.cell b o hb hne
  refine ⟨by rw [hs3], hS3, w4, hup, ?_, ?_, ?_⟩
  · rw [c4 C 5 (by omega) hMC.symm, c4 _ 0 (by omega) hMk.symm, c4 _ 1 (by omega) hMk.symm, c4 _ 2 (by omega) hMk.symm]
    exact hS3
  · have ent3 : ∀ y ∈ L, PartIs w3 y := by
      intro y hy
      have hpt := h.ent y hy
      refine hpt.keep ?_ (fun o => ?_)
      · refine c3 y.e 3 (lt_cell hpt.val) ?_
        intro ht
        rcases ht with ⟨h1, _⟩ | ⟨_, h1⟩
        · exact h.ring.ne (List.mem_map.2 ⟨y, hy, rfl⟩) h1
        · omega
      · refine c3 y.p o (lt_cell hpt.p0) ?_
        intro ht
        rcases ht with ⟨h1, _⟩ | ⟨h1, _⟩
        · exact (h.pC y hy).1 h1
        · obtain ⟨z, hz, e1⟩ := List.mem_map.1 h1
          exact (h.pC y hy).2 z hz e1.symm
    have hpM : ∀ y ∈ L, y.p ≠ M := by
      intro y hy e
      have h0 := (h.ent y hy).p0
      rw [e] at h0
      obtain ⟨D, ⟨es, cl, h1, _⟩, _⟩ := h.mp
      simp [World.cell?, h1] at h0
    have p3 : ∀ o, w3.cell? ⟨w2.heap.size, o, none⟩ = W.cell? ⟨w2.heap.size, o, none⟩ := by
      intro o
      refine hg3.cell _ o (by omega) ?_
      intro ht
      rcases ht with ⟨h1, _⟩ | ⟨h1, _⟩
      · omega
      · obtain ⟨y, hy, e1⟩ := List.mem_map.1 h1
        have := (h.ring.rows y.e (List.mem_map.2 ⟨y, hy, rfl⟩)).lt
        omega
    refine ⟨?_, ?_, ?_, ?_, ?_, ?_, ?_, ?_, ?_, ?_⟩
    · refine hR3.keep g4.row (fun b o hb => c4 b o ?_ ?_)
      · rcases hb with ⟨rfl, _⟩ | ⟨hb, _⟩
        · omega
        · exact (hR3.rows b hb).lt
      · rcases hb with ⟨rfl, _⟩ | ⟨hb, _⟩
        · exact hMC.symm
        · rcases List.mem_cons.1 hb with rfl | hb
          · omega
          · obtain ⟨y, hy, rfl⟩ := List.mem_map.1 hb
            exact (hMe y hy).symm
    · rw [c4 C 0 (by omega) hMC.symm, c3 C 0 hC2 (nC 0 (by omega) (by omega) (by omega))]; exact h.mu
    · rw [c4 C 2 (by omega) hMC.symm, c3 C 2 hC2 (nC 2 (by omega) (by omega) (by omega))]; exact h.lim
    · rw [c4 C 3 (by omega) hMC.symm, c3 C 3 hC2 (nC 3 (by omega) (by omega) (by omega))]; exact h.sz
    · rw [c4 C 5 (by omega) hMC.symm]; exact hS3.1
    · rw [← at_cons]; exact hm4
    · intro y hy
      rcases List.mem_cons.1 hy with rfl | hy
      · refine ⟨?_, ?_, ?_, ?_, ?_, ?_⟩
        · rw [c4 _ 3 (by simp; omega) (by simp; omega)]; exact hv3
        · rw [c4 _ 0 (by simp; omega) (by simp; omega), p3, cell_of_row _ _ _ _ _ _ bp]; rfl
        · rw [c4 _ 1 (by simp; omega) (by simp; omega), p3, cell_of_row _ _ _ _ _ _ bp]; rfl
        · rw [c4 _ 2 (by simp; omega) (by simp; omega), p3, cell_of_row _ _ _ _ _ _ bp]; rfl
        · rw [c4 _ 3 (by simp; omega) (by simp; omega), p3, cell_of_row _ _ _ _ _ _ bp]; rfl
        · rw [c4 _ 4 (by simp; omega) (by simp; omega), p3, cell_of_row _ _ _ _ _ _ bp]; rfl
      · have hpt := ent3 y hy
        exact hpt.keep (c4 y.e 3 (lt_cell hpt.val) (hMe y hy).symm) (fun o => c4 y.p o (lt_cell hpt.p0) (hpM y hy))
    · intro y hy
      have hle : ∀ z ∈ L, z.e < w2.heap.size := fun z hz => (h.ring.rows z.e (List.mem_map.2 ⟨z, hz, rfl⟩)).lt
      rcases List.mem_cons.1 hy with rfl | hy
      · refine ⟨by simp; omega, fun z hz => ?_⟩
        rcases List.mem_cons.1 hz with rfl | hz
        · simp
        · have := hle z hz; simp; omega
      · refine ⟨(h.pC y hy).1, fun z hz => ?_⟩
        rcases List.mem_cons.1 hz with rfl | hz
        · have := lt_cell (h.ent y hy).p0; simp at this ⊢; omega
        · exact (h.pC y hy).2 z hz
    · intro y hy
      rcases List.mem_cons.1 hy with rfl | hy
      · exact ⟨hk, hs⟩
      · exact h.kok y hy
    · exact List.pairwise_cons.2 ⟨fun y hy e => hm y hy e.symm, h.keys⟩
  · refine (hO.g.mono (fun b o _ ht => TB_of_TC ht)).trans (g1.trans ?_)
    exact (hg3.mono (fun b o _ ht => TB_of_TL ht)).trans (g4.mono (fun b o _ e => .inr (.inl e)))

/-- The size counted anew. -/
theorem LS.setSz {C M : Nat} {lim mu sz : Int} {n : Nat} {L : List Ent} {w : World} (h : LS C M lim mu sz n L w) (sz' : Int) : LS C M lim mu sz' n L (w.setCell ⟨C, 3, none⟩ (.int .i64 sz')) := by
  have hMC : M ≠ C := h.mp.notRow h.ring.rC
  refine ⟨?_, ?_, ?_, cell_set_same h.sz _, ?_, ?_, ?_, h.pC, h.kok, h.keys⟩
  · refine h.ring.keep (fun _ _ hr => hr.setCell _ _ _) (fun b o hb => cell_set_ne ?_)
    rcases hb with ⟨rfl, ho⟩ | ⟨hb, _⟩
    · omega
    · exact fun e => h.ring.ne hb e.1.symm
  · rw [cell_set_ne (by omega)]; exact h.mu
  · rw [cell_set_ne (by omega)]; exact h.lim
  · rw [cell_set_ne (by omega)]; exact h.prt
  · exact h.mp.blk (Below.heap_setCell w ⟨C, 3, none⟩ _ M hMC)
  · intro y hy
    exact (h.ent y hy).keep (cell_set_ne (fun e => h.ring.ne (List.mem_map.2 ⟨y, hy, rfl⟩) e.1.symm)) (fun o => cell_set_ne (fun e => (h.pC y hy).1 e.1.symm))

/-- How many parts are kept: as few are dropped from the back as must be, and one stays. -/
structure Kept (lim : Int) (L : List Ent) (j : Nat) : Prop where
  lo : 1 ≤ j
  hi : j ≤ L.length
  more : ∀ i, j < i → i ≤ L.length → lim < sm (L.take i)

def cLen (w : World) (C : Nat) : Nat := match w.cell? ⟨C, 10, none⟩ with | some (.int _ l) => l.toNat | _ => 0
theorem LS.cLen {C M : Nat} {lim mu sz : Int} {n : Nat} {L : List Ent} {w : World} (h : LS C M lim mu sz n L w) : cLen w C = L.length := by
  have := h.ring.len
  simp [Ybulkbgci.cLen, this]

theorem take_last (L : List Ent) (j : Nat) (h : j + 1 ≤ L.length) : ∃ y, L.take (j + 1) = L.take j ++ [y] := ⟨L[j], List.take_succ_eq_append_getElem (by omega)⟩

set_option maxRecDepth 100000 in
set_option maxHeartbeats 4000000 in
/-- 'put' at a key that is not held. -/
theorem put_miss (C M : Nat) (lim sz : Int) (n : Nat) (L : List Ent) (ko ka kk v s : Int) (w : World) (h : LS C M lim 0 sz n L w) (hk : KeyOk (ko, ka, kk)) (hm : ∀ x ∈ L, x.k ≠ (ko, ka, kk)) (hl : L.length ≤ 2000) (hs0 : 0 ≤ s) (hs1 : s < 16) (hz : sz = sm L) (hn : n ≤ 100000) (hlim : 0 ≤ lim) :
    Calls Yba.prog 12 #[.pointer (some ⟨C, 0, none⟩), .agg #[.int .u64 ko, .int .i64 ka, .int .u8 kk], .iface 3 (.int .i64 v), .int .i64 s] w fun r w' => r = .returned (.tuple #[]) ∧
      ∃ (e p j : Nat), w.heap.size ≤ e ∧ w.heap.size ≤ p ∧ Kept lim (⟨e, p, (ko, ka, kk), v, s⟩ :: L) j ∧ (sm ((⟨e, p, (ko, ka, kk), v, s⟩ :: L).take j) ≤ lim ∨ j = 1) ∧
        LS C M lim 0 (sm ((⟨e, p, (ko, ka, kk), v, s⟩ :: L).take j)) (n + 1) ((⟨e, p, (ko, ka, kk), v, s⟩ :: L).take j) w' ∧ Grew (TB C M (L.map Ent.e)) w w' := by
  have hC := h.ring.rC.lt
  have HL : Hid (LS C M lim 0 sz n L w) := h
  have c0 := h.mu
  have f0 := h.ring.rC.frozen 0
  have hb := sm_bound L (fun x hx => (h.kok x hx).2)
  clear h
  go_enter_defers Yba.func12, Yba.ntmps12
  go_wp2_with (go_at_call 18; refine (lock_free Yba.muLib ⟨C, 0, none⟩ _ ?_ ?_).mono ?_)
  · rw [World.cell?_alloc_past _ _ _ hC]; exact c0
  · rw [World.frozen?_alloc_past _ _ _ hC]; exact f0
  rintro e w2 ⟨rfl, hw⟩
  have HO : Hid (Opened C M lim sz n L ko ka kk w w2) := opened HL.out hw
  clear hw c0 f0 HL
  have c5 := HO.out.ls.prt
  have k0 := HO.out.k0
  have k1 := HO.out.k1
  have k2 := HO.out.k2
  have hlk : ∀ q, (Instr.lookup 65 (.map (some M)) (.agg #[.int .u64 ko, .int .i64 ka, .int .u8 kk]) true).run Yba.prog (w2.drewN q) = .ok (.tuple #[.pointer none, .bool false]) (w2.drewN q) := by
    intro q
    have := ((HO.out.ls.drewN q).mp).look hk
    rw [at_none hm] at this
    exact this
  go_wp2
  go_quiet (fail)
  go_wp2
  clear hlk
  have hC2 : C < w2.heap.size := HO.out.ls.ring.rC.lt
  have hk2 : w.heap.size < w2.heap.size := by rw [HO.out.size]; omega
  have HZ : Hid (sz = sm L) := hz
  have HM : Hid (∀ x ∈ L, x.k ≠ (ko, ka, kk)) := hm
  clear hz hm
  go_region_held3 (fun w' => w'.cell? ⟨C, 5, none⟩ = some (.map (some M)) ∧ w'.cell? ⟨w.heap.size, 0, none⟩ = some (.int .u64 ko) ∧ w'.cell? ⟨w.heap.size, 1, none⟩ = some (.int .i64 ka) ∧ w'.cell? ⟨w.heap.size, 2, none⟩ = some (.int .u8 kk)) (first | go_keep | exact hS3 | exact hS4)
    ((go_at_call 22; refine (push_part (nq + 1) HO.out hk HM.out hl ⟨hs0, hs1⟩ hn).mono ?_; rintro r w3 ⟨rfl, hS3, w4, hup, hS4, hls4, hg4⟩; have H4 : Hid (LS C M lim 1 sz (n + 1) (⟨w2.heap.size + 1, w2.heap.size, (ko, ka, kk), v, s⟩ :: L) w4 ∧ Grew (TB C M (L.map Ent.e)) w w4) := ⟨hls4, hg4⟩; clear hls4 hg4))
  clear hS3 hS4 hup c5 k0 k1 k2
  obtain ⟨X, hX⟩ : ∃ X : Ent, X = ⟨w2.heap.size + 1, w2.heap.size, (ko, ka, kk), v, s⟩ := ⟨_, rfl⟩
  have HX : Hid (X = ⟨w2.heap.size + 1, w2.heap.size, (ko, ka, kk), v, s⟩) := hX
  rw [← hX] at H4
  have c3 := H4.out.1.sz
  have f3 := H4.out.1.ring.rC.frozen 3
  have hz0 : 0 ≤ sz := by rw [HZ.out]; exact hb.1
  have hz1 : sz ≤ 30000 := by rw [HZ.out]; omega
  have H5 : Hid (LS C M lim 1 (sm ((X :: L).take (X :: L).length)) (n + 1) ((X :: L).take (X :: L).length) (w4.setCell ⟨C, 3, none⟩ (.int .i64 (sz + s))) ∧ Grew (TB C M ((X :: L).map Ent.e)) w (w4.setCell ⟨C, 3, none⟩ (.int .i64 (sz + s)))) := by
    have e1 : sm (X :: L) = sz + s := by rw [HZ.out, hX]; simp only [sm]; omega
    rw [List.take_length, e1]
    exact ⟨H4.out.1.setSz _, (H4.out.2.mono (fun b o _ ht => by
      rcases ht with h1 | h1 | h1
      · exact .inl h1
      · exact .inr (.inl h1)
      · exact .inr (.inr (by simp [h1])))).setCell (.inl rfl) _⟩
  have hxb : ∀ y ∈ X :: L, 0 ≤ y.s ∧ y.s < 16 := fun y hy => (H4.out.1.kok y hy).2
  have HB : Hid (∀ y ∈ X :: L, 0 ≤ y.s ∧ y.s < 16) := hxb
  clear hX hb hxb H4
  go_wp2
  go_loopw [50] (fun _ wr => ∃ j, Kept lim (X :: L) j ∧ LS C M lim 1 (sm ((X :: L).take j)) (n + 1) ((X :: L).take j) wr ∧ Grew (TB C M ((X :: L).map Ent.e)) w wr) (fun _ wr => cLen wr C)
  case atStart => exact ⟨_, ⟨by simp, Nat.le_refl _, fun i h1 h2 => by omega⟩, H5.out.1, H5.out.2⟩
  case round =>
    clear H5 c3 f3
    obtain ⟨j, hK, hLS, hG⟩ := hrel
    have hj1 := hK.lo
    have hj2 := hK.hi
    have hlen : ((X :: L).take j).length = j := by rw [List.length_take]; omega
    have hsb := sm_bound ((X :: L).take j) (fun y hy => HB.out y (List.mem_of_mem_take hy))
    rw [hlen] at hsb
    have c3 := hLS.sz
    have c2 := hLS.lim
    have c10 := hLS.ring.len
    rw [List.length_map, hlen] at c10
    have HS : Hid (LS C M lim 1 (sm ((X :: L).take j)) (n + 1) ((X :: L).take j) wr) := hLS
    have HG : Hid (Grew (TB C M ((X :: L).map Ent.e)) w wr) := hG
    have HK : Hid (Kept lim (X :: L) j) := hK
    have hj3 : j ≤ 2001 := by simp at hj2; omega
    clear hK hG hLS hlen hj2
    generalize hSg : sm ((X :: L).take j) = S at c3 hsb HS
    have HSg : Hid (sm ((X :: L).take j) = S) := hSg
    clear hSg
    by_cases h1 : lim < S
    · by_cases h2 : 1 < j
      · have h2' : (1 : Int) < (j : Int) := by omega
        obtain ⟨i, rfl⟩ : ∃ i, j = i + 1 := ⟨j - 1, by omega⟩
        obtain ⟨y, hy⟩ := take_last (X :: L) i HK.out.hi
        have hyb := HB.out y (List.mem_of_mem_take (i := i + 1) (by rw [hy]; simp))
        have hsi := sm_bound ((X :: L).take i) (fun z hz => HB.out z (List.mem_of_mem_take hz))
        have hSy : S = sm ((X :: L).take i) + y.s := by rw [← HSg.out, hy, sm_append]; simp [sm]
        have hil : ((X :: L).take i).length = i := by have := HK.out.hi; rw [List.length_take]; omega
        have HC : Hid (cLen wr C = i + 1) := by
          have := HS.out.cLen
          rw [List.length_take] at this
          have h3 := HK.out.hi
          show _ = _
          omega
        have HT : Hid (LS C M lim 1 S (n + 1) ((X :: L).take i ++ [y]) wr) := by
          show LS _ _ _ _ _ _ _ _
          rw [← hy]; exact HS.out
        have c7 : wr.cell? ⟨C, 7, none⟩ = some (.pointer (some (nd y.e))) := by
          have hr := HT.out.ring
          rw [List.map_append, List.map_cons, List.map_nil] at hr
          exact hr.back.2
        have HSy : Hid (S = sm ((X :: L).take i) + y.s) := hSy
        have HY : Hid ((X :: L).take (i + 1) = (X :: L).take i ++ [y]) := hy
        have HIL : Hid (((X :: L).take i).length = i) := hil
        have HH1 : Hid (lim < S) := h1
        have hys : y.s ≤ S := by omega
        have hS6 : S ≤ 1000000 := by omega
        clear hSy hy hil hyb hsi HS
        go_wp2
        go_quiet ((go_at_call 23; refine Calls.quiet_of_same (len_any C _ _ c10)))
        go_wp2_with fail
        refine (back_any C y.e _ (wr.drewN nq) (by omega) c10 c7).mono ?_
        rintro r w5 ⟨rfl, hw5⟩
        have hT5 : LS C M lim 1 S (n + 1) ((X :: L).take i ++ [y]) w5 := by rw [hw5]; exact HT.out.drewN nq
        have hG5 : Grew (TB C M ((X :: L).map Ent.e)) w w5 := by rw [hw5]; exact HG.out.drewN nq
        have HT5 : Hid (LS C M lim 1 S (n + 1) ((X :: L).take i ++ [y]) w5 ∧ Grew (TB C M ((X :: L).map Ent.e)) w w5) := ⟨hT5, hG5⟩
        clear hw5 hT5 hG5 c7 c10 c2 c3
        go_wp2_with fail
        refine (remove_part C M lim S (n + 1) ((X :: L).take i) y w5 HT5.out.1 (by have := HIL.out; intro e; rw [e] at this; simp at this; omega) (by rw [HIL.out]; omega) hys hS6).mono ?_
        rintro r w6 ⟨rfl, hL6, hG6⟩
        have H6 : Hid (LS C M lim 1 (sm ((X :: L).take i)) (n + 1) ((X :: L).take i) w6 ∧ Grew (TB C M ((X :: L).map Ent.e)) w w6) := by
          refine ⟨?_, HT5.out.2.trans (hG6.mono ?_)⟩
          · have e : S - y.s = sm ((X :: L).take i) := by rw [HSy.out]; omega
            rw [← e]; exact hL6
          · intro b o _ ht
            rcases ht with q | q | q
            · exact .inl q
            · exact .inr (.inl q)
            · refine .inr (.inr ?_)
              rw [← HY.out] at q
              obtain ⟨z, hz, rfl⟩ := List.mem_map.1 q
              exact List.mem_map.2 ⟨z, List.mem_of_mem_take hz, rfl⟩
        clear hL6 hG6 HT5
        go_wp2
        go_roundw
        case rel =>
          refine ⟨i, ⟨by omega, by have := HK.out.hi; omega, fun t ht1 ht2 => ?_⟩, H6.out.1, H6.out.2⟩
          by_cases e : t = i + 1
          · subst e; rw [HSg.out]; exact HH1.out
          · exact HK.out.more t (by omega) ht2
        case measure =>
          rw [HC.out, H6.out.1.cLen, HIL.out]; omega
      · have h3 : j = 1 := by omega
        subst h3
        go_wp2
        go_quiet ((go_at_call 23; refine Calls.quiet_of_same (len_any C _ _ c10)))
        go_wp2
        refine leaves_cons (f := 9) (args := #[.pointer (some ⟨C, 0, none⟩)]) (by simp) (by simp [go_sem]) ?_
        refine (unlock_deferred Yba.muLib ⟨C, 0, none⟩ .returning (wr.drewN nq) HS.out.mu (HS.out.ring.rC.frozen 0)).mono ?_
        rintro e u' w'' ⟨rfl, rfl, rfl⟩
        refine ⟨_, results_none rfl _ _ _, rfl, w2.heap.size + 1, w2.heap.size, 1, by omega, by omega, ?_⟩
        rw [← HX.out]
        refine ⟨HK.out, .inr rfl, by rw [HSg.out]; exact (HS.out.drewN nq).unlock, ?_⟩
        refine ((HG.out.drewN nq).setCell (.inl rfl) _).mono ?_
        intro b o hb ht
        rcases ht with q | q | q
        · exact .inl q
        · exact .inr (.inl q)
        · rcases List.mem_cons.1 q with rfl | q
          · rw [HX.out] at hb; simp at hb; omega
          · exact .inr (.inr q)
    · have hd : decide (lim < S) = false := by simpa using h1
      go_wp2
      go_quiet (fail)
      go_wp2
      refine leaves_cons (f := 9) (args := #[.pointer (some ⟨C, 0, none⟩)]) (by simp) (by simp [go_sem]) ?_
      refine (unlock_deferred Yba.muLib ⟨C, 0, none⟩ .returning (wr.drewN nq) HS.out.mu (HS.out.ring.rC.frozen 0)).mono ?_
      rintro e u' w'' ⟨rfl, rfl, rfl⟩
      refine ⟨_, results_none rfl _ _ _, rfl, w2.heap.size + 1, w2.heap.size, j, by omega, by omega, ?_⟩
      rw [← HX.out]
      refine ⟨HK.out, .inl (by rw [HSg.out]; omega), by rw [HSg.out]; exact (HS.out.drewN nq).unlock, ?_⟩
      refine ((HG.out.drewN nq).setCell (.inl rfl) _).mono ?_
      intro b o hb ht
      rcases ht with q | q | q
      · exact .inl q
      · exact .inr (.inl q)
      · rcases List.mem_cons.1 q with rfl | q
        · rw [HX.out] at hb; simp at hb; omega
        · exact .inr (.inr q)
end Go.Proofs.Ybulkbgci
