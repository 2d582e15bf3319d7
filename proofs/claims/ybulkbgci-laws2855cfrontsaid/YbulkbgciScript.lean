/-
  The law LawS2855CScript: the walk.
-/
import Derived.Test.YbulkbgciState
import Derived.Laws.AppendOwnNone
namespace Go.Proofs.Ybulkbgci
open Go.RowKit Go.MuLone
set_option linter.unusedVariables false

theorem Yba.info56 : (Yba.prog.info? 56).map (fun i => (i.zero, i.size, i.bytes)) = some (some (.agg #[.int .u64 0, .int .i64 0, .int .u8 0, .int .i64 0, .int .i64 0]), 5, 40) := by kernel_rfl

theorem cells_slice (xs : List Value) (arr : Array Value) (h : arr.toList = xs) (w : World) (t : TypeId) : (w.alloc (.cells arr t)).heap[w.heap.size]? = some (.cells arr t (0, 0)) := heap_alloc_new _ _

/-- A new item ahead of the model's items. -/
theorem wpList_append_front {ops : Array Oper} {rest : List Oper} {o : Oper} {a : Act} {Q : Exit → Act → World → Prop} (wX : World) (hgd : o.guard = none) (s x : Operand) (ho : o.op = .call { callee := .builtin .append, args := #[s, x], argTypes := #[45, 45] })
    (B : Nat) (X : Ent) (L : List Ent) (m : Value) (hs : a.eval s = .slice (some ⟨wX.heap.size, 0, none⟩) 1 1) (hx : a.eval x = m) (hm : wX.ownsRow B 56 5 m L.length (flat L)) (hB : B ≤ wX.heap.size) (hl : L.length ≤ 5000)
    (h : ∀ v' w', w'.ownsRow B 56 5 v' (X :: L).length (flat (X :: L)) → Still wX w' → wpList Yba.prog ops Q rest (a.put o.dst v') w') :
    wpList Yba.prog ops Q (o :: rest) a (wX.alloc (.cells #[.int .u64 X.k.1, .int .i64 X.k.2.1, .int .u8 X.k.2.2, .int .i64 X.v, .int .i64 X.s] 56)) := by
  obtain ⟨i0, hi, hz0, hz1, hz2⟩ := info_parts Yba.info56
  have hblk := heap_alloc_new wX (.cells #[.int .u64 X.k.1, .int .i64 X.k.2.1, .int .u8 X.k.2.2, .int .i64 X.v, .int .i64 X.s] 56)
  have hown : (wX.alloc (.cells #[.int .u64 X.k.1, .int .i64 X.k.2.1, .int .u8 X.k.2.2, .int .i64 X.v, .int .i64 X.s] 56)).ownsRow B 56 5 (.slice (some ⟨wX.heap.size, 0, none⟩) 1 1) 1 (item X) :=
    ⟨by simp [item], .inr ⟨wX.heap.size, 1, _, rfl, hB, hblk, Nat.le_refl _, by unfold maxLen; omega, by simp, by simp [item]⟩⟩
  have hflat : item X ++ flat L = flat (X :: L) := by simp [flat]
  have hst : Still wX (wX.alloc (.cells #[.int .u64 X.k.1, .int .i64 X.k.2.1, .int .u8 X.k.2.2, .int .i64 X.v, .int .i64 X.s] 56)) := (Grew.refl _ wX).alloc _
  rcases hm.2 with ⟨rfl, h0⟩ | ⟨g, cap, cur, rfl, _⟩
  · have hL : L = [] := List.eq_nil_of_length_eq_zero h0
    subst hL
    refine wpList_append_own_none hgd s x 45 ho B 56 i0 5 Yba.underlying45 hi _ 1 (item X) hs hown hx ?_
    exact h _ _ (by simpa [flat] using hown) hst
  · have hm1 := hm.alloc (.cells #[.int .u64 X.k.1, .int .i64 X.k.2.1, .int .u8 X.k.2.2, .int .i64 X.v, .int .i64 X.s] 56)
    refine wpList_append_own _ hgd s x 45 ho B 56 i0 _ 5 40 Yba.underlying45 hi hz0 hz1 hz2 rfl (by omega) _ 1 (item X) hs hown ⟨g, 0, none⟩ L.length cap (flat L) hx (flat_length L) ?_ (one_item L) (by unfold maxLen; omega) (by omega) (by simp; omega) ?_
    · intro j u hj
      have hjl : j < L.length * 5 := by
        have := (List.getElem?_eq_some_iff.1 hj).1
        rwa [flat_length] at this
      rw [show (⟨g, 0, none⟩ : Addr).add j = ⟨g, j, none⟩ by unfold Addr.add; split <;> simp_all, hm1.cellAt j hjl]
      exact hj
    · intro v' w' hown' hg _
      refine h v' w' ?_ ?_
      · rw [← hflat]
        have e : (X :: L).length = 1 + L.length := by simp; omega
        rw [e]; exact hown'
      · have hnr : ∀ b, b < wX.heap.size → w'.heap[b]? = wX.heap[b]? := fun b hb => (hg.block b (by simp; omega) (by simp [Value.ownBlock]; omega)).trans (Below.heap_alloc _ _ _ hb)
        refine ⟨hg.os, hg.tape, hg.output, by have := hg.size; simp at this; omega, fun b o hb _ => World.cell?_of_block (hnr b hb), fun b hb _ => hnr b hb, fun b t hr => ?_⟩
        have hb := hr.lt
        obtain ⟨cs, hr⟩ := hr
        exact ⟨cs, (hnr b hb).trans hr⟩

theorem own_pop {w : World} {B g cap j : Nat} {A : List Ent} {y : Ent} (h : w.ownsRow B 56 5 (.slice (some ⟨g, 0, none⟩) (j + 1) cap) (j + 1) (flat (A ++ [y]))) (hj : A.length = j) : w.ownsRow B 56 5 (.slice (some ⟨g, 0, none⟩) j cap) j (flat A) := by
  obtain ⟨h1, h2⟩ := h
  rcases h2 with ⟨h0, _⟩ | ⟨g', cap', cur, hv, hg, hh, hn, hc, hs, ht⟩
  · cases h0
  · cases hv
    refine ⟨by rw [flat_length, hj], .inr ⟨g, cap, cur, rfl, hg, hh, by omega, hc, hs, ?_⟩⟩
    have e : (cur.toList.take ((j + 1) * 5)).take (j * 5) = cur.toList.take (j * 5) := by rw [List.take_take, Nat.min_eq_left (by omega)]
    rw [← e, ht, flat_append, List.take_append_of_le_length (by rw [flat_length, hj]; exact Nat.le_refl _), List.take_of_length_le (by rw [flat_length, hj]; exact Nat.le_refl _)]

theorem St.mono {w wr : World} {C M : Nat} {lim : Int} {n n' : Nat} {L : List Ent} {m : Value} (h : St w C M lim n L m wr) (hn : n ≤ n') : St w C M lim n' L m wr := by
  obtain ⟨D, h1, h2⟩ := h.ls.mp
  exact ⟨⟨h.ls.ring, h.ls.mu, h.ls.lim, h.ls.sz, h.ls.prt, ⟨D, h1.mono hn, h2⟩, h.ls.ent, h.ls.pC, h.ls.kok, h.ls.keys⟩, h.own, h.bel, h.hC, h.hM, h.he, by have := h.len; omega⟩

theorem split_key (L : List Ent) (k : Int × Int × Int) : (∀ x ∈ L, x.k ≠ k) ∨ ∃ A x D, L = A ++ x :: D ∧ x.k = k ∧ ∀ y ∈ A, y.k ≠ k := by
  induction L with
  | nil => exact .inl (fun x hx => by simp at hx)
  | cons a L ih =>
    by_cases ha : a.k = k
    · exact .inr ⟨[], a, L, rfl, ha, fun y hy => by simp at hy⟩
    · rcases ih with ih | ⟨A, x, D, rfl, hx, hA⟩
      · exact .inl (fun x hx => (List.mem_cons.1 hx).elim (fun e => e ▸ ha) (ih x))
      · exact .inr ⟨a :: A, x, D, rfl, hx, fun y hy => (List.mem_cons.1 hy).elim (fun e => e ▸ ha) (hA y)⟩

def slLen (v : Value) : Nat := match v with | .slice _ l _ => l | _ => 0

/-- The cells of a key's box. -/
structure Box (w : World) (b : Nat) (ko ka kk : Int) : Prop where
  row : Row w b 51
  k0 : w.cell? ⟨b, 0, none⟩ = some (.int .u64 ko)
  k1 : w.cell? ⟨b, 1, none⟩ = some (.int .i64 ka)
  k2 : w.cell? ⟨b, 2, none⟩ = some (.int .u8 kk)

theorem Box.keep {w w' : World} {b : Nat} {ko ka kk : Int} {T : Nat → Nat → Prop} (h : Box w b ko ka kk) (g : Grew T w w') (hT : ∀ o, ¬ T b o) : Box w' b ko ka kk :=
  ⟨g.row _ _ h.row, (g.cell _ _ h.row.lt (hT 0)).trans h.k0, (g.cell _ _ h.row.lt (hT 1)).trans h.k1, (g.cell _ _ h.row.lt (hT 2)).trans h.k2⟩
theorem Box.new (w : World) (ko ka kk : Int) : Box (w.alloc (.cells #[.int .u64 ko, .int .i64 ka, .int .u8 kk] 51)) w.heap.size ko ka kk := by
  have hb := heap_alloc_new w (.cells #[.int .u64 ko, .int .i64 ka, .int .u8 kk] 51)
  exact ⟨⟨_, hb⟩, by rw [cell_of_row _ _ _ _ _ _ hb]; rfl, by rw [cell_of_row _ _ _ _ _ _ hb]; rfl, by rw [cell_of_row _ _ _ _ _ _ hb]; rfl⟩

theorem St.box_tb {w wr wr' : World} {C M : Nat} {lim : Int} {n : Nat} {L : List Ent} {m : Value} {b : Nat} {ko ka kk : Int} (h : St w C M lim n L m wr) (hb : Box wr b ko ka kk) (g : Grew (TB C M (L.map Ent.e)) wr wr') : Box wr' b ko ka kk :=
  hb.keep g (fun o => h.ls.notTB hb.row (by decide) (by decide))

/-- A part has been put: the cache holds the new list; the model is still the old one. -/
theorem St.put {w wr wr' : World} {C M : Nat} {lim : Int} {n : Nat} {L L' : List Ent} {m : Value} (h : St w C M lim n L m wr) (g : Grew (TB C M (L.map Ent.e)) wr wr') (hl : LS C M lim 0 (sm L') (n + 1) L' wr') : wr'.ownsRow w.heap.size 56 5 m L.length (flat L) ∧ Below w.heap.size w wr' := h.tb g

set_option maxRecDepth 100000 in
set_option maxHeartbeats 8000000 in
theorem script_row (lm : Int) (a1 : Option Addr) (n cap : Nat) (zp zo za zs : Nat → Int) (w : World) (hn : n ≤ 1024) (hlm0 : 0 ≤ lm) (hlm1 : lm ≤ 255)
    (hz : ∀ j, (0 ≤ zp j ∧ zp j ≤ 255) ∧ (0 ≤ zo j ∧ zo j ≤ 255) ∧ (0 ≤ za j ∧ za j ≤ 255) ∧ (0 ≤ zs j ∧ zs j ≤ 255))
    (hc : ∀ j, j < n → ∃ b off, a1 = some ⟨b, off, none⟩ ∧ b < w.heap.size ∧ w.cell? ⟨b, off + j * 4, none⟩ = some (.int .u8 (zp j)) ∧ w.cell? ⟨b, off + j * 4 + 1, none⟩ = some (.int .u8 (zo j)) ∧ w.cell? ⟨b, off + j * 4 + 2, none⟩ = some (.int .u8 (za j)) ∧ w.cell? ⟨b, off + j * 4 + 3, none⟩ = some (.int .u8 (zs j))) :
    Calls Yba.prog 4 #[.int .u8 lm, .slice a1 n cap] w fun e w' => e = .returned (.bool true) ∧ Below w.heap.size w w' := by
  have hn' : (n : Int) ≤ 1024 := by omega
  go_enter Yba.func4, Yba.ntmps4
  go_wp2_with fail
  refine (new_any (lm % 64) w).mono ?_
  rintro r w1 ⟨rfl, hls, hst⟩
  have H0 : Hid (St w (w.heap.size + 1) w.heap.size (lm % 64) 0 [] (.slice none 0 0) w1) := ⟨hls, World.ownsRow_nil _ _ _ _, Still.below (Below.refl _ _) hst, by omega, Nat.le_refl _, fun x hx => by simp at hx, Nat.le_refl _⟩
  clear hls hst
  go_wp2
  go_loopw [7, 8, 9] (fun m sz i wr => ∃ (k : Nat) (L : List Ent), k ≤ n ∧ i = .int .i64 k ∧ sz = .int .i64 (sm L) ∧ Hid (St w (w.heap.size + 1) w.heap.size (lm % 64) k L m wr)) (fun _ _ i _ => n - (intOf i).toNat)
  case atStart => exact ⟨0, [], Nat.zero_le _, rfl, rfl, H0⟩
  case round =>
    clear H0
    obtain ⟨k, L, hk, rfl, rfl, HS⟩ := hrel
    by_cases hlt : k < n
    · obtain ⟨b, off, rfl, hb, q0, q1, q2, q3⟩ := hc k hlt
      obtain ⟨⟨zp0, zp1⟩, ⟨zo0, zo1⟩, ⟨za0, za1⟩, zs0, zs1⟩ := hz k
      have r0 := (HS.out.bel.cell (p := ⟨b, off + k * 4, none⟩) hb).trans q0
      have r1 := (HS.out.bel.cell (p := ⟨b, off + k * 4 + 1, none⟩) hb).trans q1
      have r2 := (HS.out.bel.cell (p := ⟨b, off + k * 4 + 2, none⟩) hb).trans q2
      have r3 := (HS.out.bel.cell (p := ⟨b, off + k * 4 + 3, none⟩) hb).trans q3
      clear q0 q1 q2 q3 hc hz
      generalize zp k = p at *
      generalize zo k = o at *
      generalize za k = a at *
      generalize zs k = s at *
      go_wp2_with fail
      refine (key_any o a _ zo0 zo1 za0 za1).mono ?_
      rintro r w2 ⟨rfl, hw2⟩
      have hob : w2.heap[wr.heap.size]? = some (.cells #[.int .u8 p, .int .u8 o, .int .u8 a, .int .u8 s] 47 (0, 0)) := by
        rw [hw2, Below.heap_alloc _ _ _ (by simp)]; exact heap_alloc_new _ _
      have p0 : w2.cell? ⟨wr.heap.size, 0, none⟩ = some (.int .u8 p) := by rw [cell_of_row _ _ _ _ _ _ hob]; rfl
      have p3 : w2.cell? ⟨wr.heap.size, 3, none⟩ = some (.int .u8 s) := by rw [cell_of_row _ _ _ _ _ _ hob]; rfl
      have hol : wr.heap.size < w2.heap.size := (Array.getElem?_eq_some_iff.1 hob).1
      have HS2 : Hid (St w (w.heap.size + 1) w.heap.size (lm % 64) k L u7 w2) := HS.out.still (by rw [hw2]; exact ((Grew.refl _ wr).alloc _).alloc _)
      clear hw2 hob HS r0 r1 r2 r3
      have hko : KeyOk (o % 3, a % 4, o / 3 % 2) := ⟨⟨by simp; omega, by simp; omega⟩, ⟨by simp; omega, by simp; omega⟩, by simp; omega, by simp; omega⟩
      generalize hk1 : o % 3 = ko at *
      generalize hk2 : a % 4 = ka at *
      generalize hk3 : o / 3 % 2 = kk at *
      clear hk1 hk2 hk3 zo0 zo1 za0 za1
      have HS3 : Hid (St w (w.heap.size + 1) w.heap.size (lm % 64) k L u7 (w2.alloc (.cells #[.int .u64 ko, .int .i64 ka, .int .u8 kk] 51))) := HS2.out.still ((Grew.refl _ w2).alloc _)
      have HB3 : Hid (Box (w2.alloc (.cells #[.int .u64 ko, .int .i64 ka, .int .u8 kk] 51)) w2.heap.size ko ka kk) := Box.new w2 ko ka kk
      have hkl : L.length ≤ 1024 := by have := HS2.out.len; omega
      by_cases hp : p % 2 = 0
      · -- a put
        rcases split_key L (ko, ka, kk) with hmiss | ⟨A, x, D, hL, hx, hA⟩
        · have HMS : Hid (∀ x ∈ L, x.k ≠ (ko, ka, kk)) := hmiss
          clear hmiss
          go_wp2_with fail
          refine (put_miss (w.heap.size + 1) w.heap.size (lm % 64) (sm L) k L ko ka kk k (s % 16) _ HS3.out.ls hko HMS.out (by omega) (by omega) (by omega) rfl (by omega) (by omega)).mono ?_
          rintro r w4 ⟨rfl, e, pp, j, he, hpp, hK, hor, hl4, hg4⟩
          have ht4 := HS3.out.tb hg4
          have hb4 := HS3.out.box_tb HB3.out hg4
          obtain ⟨_, k0, k1, k2⟩ := hb4
          have hew : w.heap.size ≤ e := Nat.le_trans HS3.out.bel.size he
          have hLb := sm_bound L (fun x hx => (HS3.out.ls.kok x hx).2)
          obtain ⟨X, hX⟩ : ∃ X : Ent, X = ⟨e, pp, (ko, ka, kk), (k : Int), s % 16⟩ := ⟨_, rfl⟩
          have HX : Hid (X = ⟨e, pp, (ko, ka, kk), (k : Int), s % 16⟩) := hX
          rw [← hX] at hK hor hl4
          have H4 : Hid ((w4.ownsRow w.heap.size 56 5 u7 L.length (flat L) ∧ Below w.heap.size w w4) ∧ Kept (lm % 64) (X :: L) j ∧ (sm ((X :: L).take j) ≤ lm % 64 ∨ j = 1) ∧ LS (w.heap.size + 1) w.heap.size (lm % 64) 0 (sm ((X :: L).take j)) (k + 1) ((X :: L).take j) w4) := ⟨ht4, hK, hor, hl4⟩
          have HEB : Hid (∀ x ∈ X :: L, w.heap.size ≤ x.e) := by
            intro y hy
            rcases List.mem_cons.1 hy with rfl | hy
            · rw [hX]; exact hew
            · exact HS3.out.he y hy
          have HXB : Hid (∀ x ∈ X :: L, 0 ≤ x.s ∧ x.s < 16) := by
            intro y hy
            rcases List.mem_cons.1 hy with rfl | hy
            · rw [hX]; simp; omega
            · exact (HS3.out.ls.kok y hy).2
          have hLk : Hid (L.length ≤ k) := HS2.out.len
          clear hX hK hor hl4 hg4 ht4 HS3 HB3 HS2 he hpp hew
          go_wp2_with fail
          refine (find_miss w.heap.size u7 L ko ka kk w4 H4.out.1.1 HMS.out (by omega)).mono ?_
          rintro r w5 ⟨rfl, q, hw5⟩
          have hst5 := still_find hw5
          have ho5 : w5.ownsRow w.heap.size 56 5 u7 L.length (flat L) := ownsRow_grew H4.out.1.1 hst5 (fun _ _ _ h => h)
          have H5 : Hid (Still w4 w5 ∧ w5.ownsRow w.heap.size 56 5 u7 L.length (flat L) ∧ w.heap.size ≤ w5.heap.size) := ⟨hst5, ho5, Nat.le_trans H4.out.1.2.size hst5.size⟩
          have k0' := (hst5.cell _ 0 (lt_cell k0) (fun h => h)).trans k0
          have k1' := (hst5.cell _ 1 (lt_cell k1) (fun h => h)).trans k1
          have k2' := (hst5.cell _ 2 (lt_cell k2) (fun h => h)).trans k2
          clear hw5 hst5 ho5 k0 k1 k2
          go_wp2_with (at_builtin; refine wpList_append_front w5 rfl _ _ rfl w.heap.size ⟨e, pp, (ko, ka, kk), (k : Int), s % 16⟩ L u7 rfl rfl H5.out.2.1 H5.out.2.2 (by omega) ?_; intro v6 w6 hown6 hst6)
          have H6 : Hid (w6.ownsRow w.heap.size 56 5 v6 (X :: L).length (flat (X :: L)) ∧ Still w4 w6) := by
            rw [HX.out]
            exact ⟨hown6, H5.out.1.trans hst6⟩
          clear hown6 hst6 H5 k0' k1' k2'
          have hlL : (X :: L).length = L.length + 1 := rfl
          have HLB : Hid (0 ≤ sm L ∧ sm L ≤ 15 * L.length) := hLb
          go_wp2
          go_loop [7, 8] (fun mv sz => ∃ j', Kept (lm % 64) (X :: L) j' ∧ sz = .int .i64 (sm ((X :: L).take j')) ∧ Hid (w6.ownsRow w.heap.size 56 5 mv j' (flat ((X :: L).take j')))) (fun mv _ => slLen mv)
          case atStart =>
            refine ⟨(X :: L).length, ⟨by simp, Nat.le_refl _, fun i h1 h2 => by omega⟩, ?_, ?_⟩
            · rw [List.take_length]
              simp only [sm, HX.out]
              congr 1
              go_num
            · rw [List.take_length]; exact H6.out.1
          case round =>
            obtain ⟨j', hK', rfl, HO⟩ := hrel
            have hj1 := hK'.lo
            have hj2 := hK'.hi
            have hjl : j' ≤ 1025 := by omega
            have hSb := sm_bound ((X :: L).take j') (fun x hx => HXB.out x (List.mem_of_mem_take hx))
            have hlen : ((X :: L).take j').length = j' := by rw [List.length_take]; omega
            rw [hlen] at hSb
            have HK' : Hid (Kept (lm % 64) (X :: L) j') := hK'
            clear hK' hlL hLb
            obtain ⟨g, cp, rfl, hcp⟩ : ∃ g cp, u7 = .slice (some ⟨g, 0, none⟩) j' cp ∧ j' ≤ cp := by
              rcases HO.out.2 with ⟨_, h0⟩ | ⟨g, cp, cur, hv, _, _, h3, _⟩
              · omega
              · exact ⟨g, cp, hv, h3⟩
            have HEx : ((sm ((X :: L).take j') ≤ lm % 64 ∨ j' = 1) → Hid (St w (w.heap.size + 1) w.heap.size (lm % 64) (k + 1) ((X :: L).take j') (.slice (some ⟨g, 0, none⟩) j' cp) w6)) := by
              intro hor'
              have e : j = j' := Kept.unique H4.out.2.1 HK'.out H4.out.2.2.1 hor'
              subst e
              have hl4 := H4.out.2.2.2
              refine ⟨hl4.still H6.out.2, by rw [hlen]; exact HO.out, Still.below H4.out.1.2 H6.out.2, by omega, Nat.le_refl _, fun x hx => HEB.out x (List.mem_of_mem_take hx), by rw [hlen]; have := hLk.out; have h9 : (X :: L).length = L.length + 1 := rfl; omega⟩
            have HEX : Hid ((sm ((X :: L).take j') ≤ lm % 64 ∨ j' = 1) → Hid (St w (w.heap.size + 1) w.heap.size (lm % 64) (k + 1) ((X :: L).take j') (.slice (some ⟨g, 0, none⟩) j' cp) w6)) := HEx
            clear HEx
            generalize hSg : sm ((X :: L).take j') = S at hSb
            have HSg : Hid (sm ((X :: L).take j') = S) := hSg
            rw [HSg.out] at HEX
            have hcp0 : ¬ (cp = 0) := by omega
            by_cases h1 : lm % 64 < S
            · by_cases h2 : 1 < j'
              · have h2' : (1 : Int) < (j' : Int) := by omega
                obtain ⟨i, rfl⟩ : ∃ i, j' = i + 1 := ⟨j' - 1, by omega⟩
                obtain ⟨y, hy⟩ := take_last (X :: L) i HK'.out.hi
                have hsi := sm_bound ((X :: L).take i) (fun z hz => HXB.out z (List.mem_of_mem_take hz))
                have hil : ((X :: L).take i).length = i := by rw [List.length_take]; omega
                rw [hil] at hsi
                have hyb := HXB.out y (List.mem_of_mem_take (i := i + 1) (by rw [hy]; simp))
                have hSy : S = sm ((X :: L).take i) + y.s := by rw [← HSg.out, hy, sm_append]; simp [sm]
                have ho := HO.out
                rw [hy] at ho
                have hc5 := (item_cells (A := (X :: L).take i) (D := []) (x := y) (g := g) (cap := cp) (w := w6) (B := w.heap.size) (by rw [List.length_append, hil]; exact ho)).2.2.2.2
                rw [hil] at hc5
                have hpop := own_pop ho hil
                have HR : Hid (w6.ownsRow w.heap.size 56 5 (.slice (some ⟨g, 0, none⟩) i cp) i (flat ((X :: L).take i)) ∧ S = sm ((X :: L).take i) + y.s ∧ lm % 64 < S) := ⟨hpop, hSy, h1⟩
                have hys : 0 ≤ S - y.s := by omega
                have hi1 : (((i + 1 : Nat) : Int) - 1) = (i : Int) := by omega
                clear hpop hSy ho hy hsi hil HO HEX hSg
                go_wp2
                go_round
                case rel =>
                  refine ⟨i, ⟨by omega, by omega, fun q h3 h4 => ?_⟩, ?_, HR.out.1⟩
                  · by_cases h5 : q = i + 1
                    · subst h5; rw [HSg.out]; exact HR.out.2.2
                    · exact HK'.out.more q (by omega) h4
                  · congr 1
                    have := HR.out.2.1
                    omega
                case measure => simp [slLen]
              · have h2' : ¬ ((1 : Int) < (j' : Int)) := by omega
                have HE := HEX.out (.inr (by omega))
                clear HEX hSg
                go_wp2
                go_roundw
                case rel => exact ⟨k + 1, (X :: L).take j', by omega, by go_num, by rw [HSg.out], HE⟩
                case measure => simp [intOf]; omega
            · have HE := HEX.out (.inl (by omega))
              clear HEX hSg
              have h1' : decide (lm % 64 < S) = false := by simp; omega
              go_wp2
              go_roundw
              case rel => exact ⟨k + 1, (X :: L).take j', by omega, by go_num, by rw [HSg.out], HE⟩
              case measure => simp [intOf]; omega
        · have HL : Hid (L = A ++ x :: D) := hL
          have HX : Hid (x.k = (ko, ka, kk)) := hx
          clear hL hx
          go_wp2_with fail
          refine (put_hit (w.heap.size + 1) w.heap.size (lm % 64) (sm L) k L x ko ka kk k (s % 16) _ HS3.out.ls (by rw [HL.out]; simp) HX.out).mono ?_
          rintro r w4 ⟨rfl, hl4, hg4⟩
          have HS4 : Hid (St w (w.heap.size + 1) w.heap.size (lm % 64) k L u7 w4) := HS3.out.same hg4 hl4
          have hb4 := HS3.out.box_tb HB3.out (hg4.mono (fun _ _ _ ht => TB_of_TC ht))
          obtain ⟨_, k0, k1, k2⟩ := hb4
          clear hl4 hg4 HS3 HB3 HS2
          go_wp2_with fail
          refine (find_hit w.heap.size u7 A D x ko ka kk w4 (by rw [← HL.out]; exact HS4.out.own) hA HX.out (by rw [← HL.out]; omega)).mono ?_
          rintro r w5 ⟨rfl, q, hw5⟩
          have HS5 : Hid (St w (w.heap.size + 1) w.heap.size (lm % 64) k L u7 w5) := HS4.out.still (still_find hw5)
          clear hw5 HS4 k0 k1 k2
          have hAl : ¬ ((A.length : Int) < 0) := by omega
          go_wp2
          go_roundw
          case rel => exact ⟨k + 1, L, by omega, by go_num, rfl, HS5.out.mono (by omega)⟩
          case measure => simp [intOf]; omega
      · -- a get
        have hp1 : (p % 2 == 0) = false := beq_eq_false_iff_ne.2 hp
        rcases split_key L (ko, ka, kk) with hmiss | ⟨A, x, D, hL, hx, hA⟩
        · go_wp2_with fail
          refine (get_miss (w.heap.size + 1) w.heap.size (lm % 64) (sm L) k L ko ka kk _ HS3.out.ls hko hmiss).mono ?_
          rintro r w4 ⟨rfl, hl4, hg4⟩
          have HS4 : Hid (St w (w.heap.size + 1) w.heap.size (lm % 64) k L u7 w4) := HS3.out.same hg4 hl4
          have hb4 := HS3.out.box_tb HB3.out (hg4.mono (fun _ _ _ ht => TB_of_TC ht))
          obtain ⟨_, k0, k1, k2⟩ := hb4
          clear hl4 hg4 HS3 HB3 HS2
          go_wp2_with fail
          refine (check_miss w.heap.size u7 L ko ka kk w4 HS4.out.own hmiss (by omega)).mono ?_
          rintro r w5 ⟨rfl, hw5⟩
          have HS5 : Hid (St w (w.heap.size + 1) w.heap.size (lm % 64) k L u7 w5) := HS4.out.still hw5
          clear hw5 HS4 k0 k1 k2
          go_wp2
          go_roundw
          case rel => exact ⟨k + 1, L, by omega, by go_num, rfl, HS5.out.mono (by omega)⟩
          case measure => simp [intOf]; omega
        · have HX : Hid (x.k = (ko, ka, kk)) := hx
          have HL : Hid (L = A ++ x :: D) := hL
          clear hx hL
          go_wp2_with fail
          refine (get_hit (w.heap.size + 1) w.heap.size (lm % 64) (sm (A ++ x :: D)) k A D x ko ka kk _ (by rw [← HL.out]; exact HS3.out.ls) HX.out).mono ?_
          rintro r w4 ⟨rfl, hl4, hg4⟩
          have HS3' := HS3.out
          rw [HL.out] at HS3'
          have hb4 := HS3'.box_tb HB3.out (hg4.mono (fun _ _ _ ht => TB_of_TC ht))
          obtain ⟨_, k0, k1, k2⟩ := hb4
          have ho4 := (HS3'.tb (hg4.mono (fun _ _ _ ht => TB_of_TC ht))).1
          have H4 : Hid (St w (w.heap.size + 1) w.heap.size (lm % 64) k (A ++ x :: D) u7 (w2.alloc (.cells #[.int .u64 ko, .int .i64 ka, .int .u8 kk] 51)) ∧ LS (w.heap.size + 1) w.heap.size (lm % 64) 0 (sm (A ++ x :: D)) k (x :: (A ++ D)) w4 ∧ Grew (TC (w.heap.size + 1) ((A ++ x :: D).map Ent.e)) (w2.alloc (.cells #[.int .u64 ko, .int .i64 ka, .int .u8 kk] 51)) w4 ∧ w4.ownsRow w.heap.size 56 5 u7 (A ++ x :: D).length (flat (A ++ x :: D))) := ⟨HS3', hl4, hg4, ho4⟩
          clear hl4 hg4 HS3 HB3 HS2 HS3' ho4
          go_wp2_with fail
          refine (check_hit w.heap.size (A ++ x :: D).length u7 A D x ko ka kk w4 H4.out.2.2.2 rfl hA HX.out (by rw [← HL.out]; omega)).mono ?_
          rintro r w5 ⟨rfl, ho5, hg5⟩
          have HS5 : Hid (St w (w.heap.size + 1) w.heap.size (lm % 64) k (x :: (A ++ D)) u7 w5) := H4.out.1.got H4.out.2.2.1 H4.out.2.1 ho5 hg5
          have HSM : Hid (sm L = sm (x :: (A ++ D))) := by
            show _ = _
            rw [HL.out]; exact sm_perm List.perm_middle
          clear ho5 hg5 H4 k0 k1 k2
          go_wp2
          go_roundw
          case rel => exact ⟨k + 1, x :: (A ++ D), by omega, by go_num, by rw [HSM.out], HS5.out.mono (by omega)⟩
          case measure => simp [intOf]; omega
    · have hk' : k = n := by omega
      subst hk'
      have hkl : L.length ≤ 1024 := by have := HS.out.len; omega
      clear hc hz hk
      go_wp2
      go_loopw [15] (fun i wr => ∃ (t : Nat) (L : List Ent), t ≤ 6 ∧ i = .int .i64 t ∧ Hid (St w (w.heap.size + 1) w.heap.size (lm % 64) k L u7 wr)) (fun i _ => 6 - (intOf i).toNat)
      case atStart => exact ⟨0, L, by omega, rfl, HS⟩
      case round =>
        clear HS
        obtain ⟨t, L, ht, rfl, HS⟩ := hrel
        by_cases ht6 : t < 6
        · have hT : decide ((t : Int) < 6) = true := by simp; omega
          go_wp2
          try rw [hT]
          go_loopw [16] (fun i wr => ∃ (q : Nat) (L : List Ent), q ≤ 4 ∧ i = .int .i64 q ∧ Hid (St w (w.heap.size + 1) w.heap.size (lm % 64) k L u7 wr)) (fun i _ => 4 - (intOf i).toNat)
          case atStart => exact ⟨0, L, by omega, rfl, HS⟩
          case round =>
            clear HS
            obtain ⟨q, L, hq, rfl, HS⟩ := hrel
            by_cases hq4 : q < 4
            · go_wp2_with fail
              refine (key_any t q _ (by omega) (by omega) (by omega) (by omega)).mono ?_
              rintro r w2 ⟨rfl, hw2⟩
              have HS2 : Hid (St w (w.heap.size + 1) w.heap.size (lm % 64) k L u7 w2) := HS.out.still (by rw [hw2]; exact (Grew.refl _ wr).alloc _)
              clear hw2 HS
              have hko : KeyOk ((t : Int) % 3, (q : Int) % 4, (t : Int) / 3 % 2) := ⟨⟨by simp; omega, by simp; omega⟩, ⟨by simp; omega, by simp; omega⟩, by simp; omega, by simp; omega⟩
              generalize hk1 : (t : Int) % 3 = ko at *
              generalize hk2 : (q : Int) % 4 = ka at *
              generalize hk3 : (t : Int) / 3 % 2 = kk at *
              clear hk1 hk2 hk3
              have HS3 : Hid (St w (w.heap.size + 1) w.heap.size (lm % 64) k L u7 (w2.alloc (.cells #[.int .u64 ko, .int .i64 ka, .int .u8 kk] 51))) := HS2.out.still ((Grew.refl _ w2).alloc _)
              have HB3 : Hid (Box (w2.alloc (.cells #[.int .u64 ko, .int .i64 ka, .int .u8 kk] 51)) w2.heap.size ko ka kk) := Box.new w2 ko ka kk
              have hkl : L.length ≤ 1024 := by have := HS2.out.len; omega
              rcases split_key L (ko, ka, kk) with hmiss | ⟨A, x, D, hL, hx, hA⟩
              · go_wp2_with fail
                refine (get_miss (w.heap.size + 1) w.heap.size (lm % 64) (sm L) k L ko ka kk _ HS3.out.ls hko hmiss).mono ?_
                rintro r w4 ⟨rfl, hl4, hg4⟩
                have HS4 : Hid (St w (w.heap.size + 1) w.heap.size (lm % 64) k L u7 w4) := HS3.out.same hg4 hl4
                have hb4 := HS3.out.box_tb HB3.out (hg4.mono (fun _ _ _ ht => TB_of_TC ht))
                obtain ⟨_, k0, k1, k2⟩ := hb4
                clear hl4 hg4 HS3 HB3 HS2
                go_wp2_with fail
                refine (check_miss w.heap.size u7 L ko ka kk w4 HS4.out.own hmiss (by omega)).mono ?_
                rintro r w5 ⟨rfl, hw5⟩
                have HS5 : Hid (St w (w.heap.size + 1) w.heap.size (lm % 64) k L u7 w5) := HS4.out.still hw5
                clear hw5 HS4 k0 k1 k2
                go_wp2
                go_roundw
                case rel => exact ⟨q + 1, L, by omega, by go_num, HS5⟩
                case measure => simp [intOf]; omega
              · have HX : Hid (x.k = (ko, ka, kk)) := hx
                have HL : Hid (L = A ++ x :: D) := hL
                clear hx hL
                go_wp2_with fail
                refine (get_hit (w.heap.size + 1) w.heap.size (lm % 64) (sm (A ++ x :: D)) k A D x ko ka kk _ (by rw [← HL.out]; exact HS3.out.ls) HX.out).mono ?_
                rintro r w4 ⟨rfl, hl4, hg4⟩
                have HS3' := HS3.out
                rw [HL.out] at HS3'
                have hb4 := HS3'.box_tb HB3.out (hg4.mono (fun _ _ _ ht => TB_of_TC ht))
                obtain ⟨_, k0, k1, k2⟩ := hb4
                have ho4 := (HS3'.tb (hg4.mono (fun _ _ _ ht => TB_of_TC ht))).1
                have H4 : Hid (St w (w.heap.size + 1) w.heap.size (lm % 64) k (A ++ x :: D) u7 (w2.alloc (.cells #[.int .u64 ko, .int .i64 ka, .int .u8 kk] 51)) ∧ LS (w.heap.size + 1) w.heap.size (lm % 64) 0 (sm (A ++ x :: D)) k (x :: (A ++ D)) w4 ∧ Grew (TC (w.heap.size + 1) ((A ++ x :: D).map Ent.e)) (w2.alloc (.cells #[.int .u64 ko, .int .i64 ka, .int .u8 kk] 51)) w4 ∧ w4.ownsRow w.heap.size 56 5 u7 (A ++ x :: D).length (flat (A ++ x :: D))) := ⟨HS3', hl4, hg4, ho4⟩
                clear hl4 hg4 HS3 HB3 HS2 HS3' ho4
                go_wp2_with fail
                refine (check_hit w.heap.size (A ++ x :: D).length u7 A D x ko ka kk w4 H4.out.2.2.2 rfl hA HX.out (by rw [← HL.out]; omega)).mono ?_
                rintro r w5 ⟨rfl, ho5, hg5⟩
                have HS5 : Hid (St w (w.heap.size + 1) w.heap.size (lm % 64) k (x :: (A ++ D)) u7 w5) := H4.out.1.got H4.out.2.2.1 H4.out.2.1 ho5 hg5
                clear ho5 hg5 H4 k0 k1 k2
                go_wp2
                go_roundw
                case rel => exact ⟨q + 1, x :: (A ++ D), by omega, by go_num, HS5⟩
                case measure => simp [intOf]; omega
            · go_wp2
              go_roundw
              case rel => exact ⟨t + 1, L, by omega, by go_num, HS⟩
              case measure => simp [intOf]; omega
        · have HB := HS.out.bel
          go_wp2
          go_ret
          exact ⟨rfl, HB⟩
end Go.Proofs.Ybulkbgci
