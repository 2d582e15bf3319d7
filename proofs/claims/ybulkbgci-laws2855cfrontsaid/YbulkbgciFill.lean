/-
  'zzs2855cfill': a script of puts alone: the cache and the model go together.
-/
import Derived.Test.YbulkbgciScript
namespace Go.Proofs.Ybulkbgci
open Go.RowKit Go.MuLone
set_option linter.unusedVariables false

set_option maxRecDepth 100000 in
set_option maxHeartbeats 8000000 in
theorem fill_any (lim : Int) (a1 : Option Addr) (n cap : Nat) (zp zo za zs : Nat → Int) (w w1 : World) (hn : n ≤ 1024) (hlm0 : 0 ≤ lim) (hlm1 : lim ≤ 63)
    (hz : ∀ j, (0 ≤ zp j ∧ zp j ≤ 255) ∧ (0 ≤ zo j ∧ zo j ≤ 255) ∧ (0 ≤ za j ∧ za j ≤ 255) ∧ (0 ≤ zs j ∧ zs j ≤ 255))
    (hc : ∀ j, j < n → ∃ b off, a1 = some ⟨b, off, none⟩ ∧ b < w.heap.size ∧ w.cell? ⟨b, off + j * 4, none⟩ = some (.int .u8 (zp j)) ∧ w.cell? ⟨b, off + j * 4 + 1, none⟩ = some (.int .u8 (zo j)) ∧ w.cell? ⟨b, off + j * 4 + 2, none⟩ = some (.int .u8 (za j)) ∧ w.cell? ⟨b, off + j * 4 + 3, none⟩ = some (.int .u8 (zs j)))
    (hst : St w (w.heap.size + 1) w.heap.size lim 0 [] (.slice none 0 0) w1) :
    Calls Yba.prog 16 #[.pointer (some ⟨w.heap.size + 1, 0, none⟩), .int .i64 lim, .slice a1 n cap, .slice none 0 0, .int .i64 0] w1 fun e w' => ∃ (L : List Ent) (m : Value), e = .returned (.tuple #[m, .int .i64 (sm L)]) ∧ St w (w.heap.size + 1) w.heap.size lim n L m w' := by
  have hn' : (n : Int) ≤ 1024 := by omega
  have H0 : Hid (St w (w.heap.size + 1) w.heap.size lim 0 [] (.slice none 0 0) w1) := hst
  clear hst
  go_enter Yba.func16, Yba.ntmps16
  go_wp2
  go_loopw [3, 4, 12] (fun m sz i wr => ∃ (k : Nat) (L : List Ent), k ≤ n ∧ i = .int .i64 k ∧ sz = .int .i64 (sm L) ∧ Hid (St w (w.heap.size + 1) w.heap.size lim k L m wr)) (fun _ _ i _ => n - (intOf i).toNat)
  case atStart => exact ⟨0, [], Nat.zero_le _, rfl, rfl, H0⟩
  case round =>
    clear H0
    obtain ⟨k, L, hk, rfl, rfl, HS⟩ := hrel
    by_cases hlt : k < n
    · obtain ⟨b, off, rfl, hb, q0, q1, q2, q3⟩ := hc k hlt
      obtain ⟨⟨zp0, zp1⟩, ⟨zo0, zo1⟩, ⟨za0, za1⟩, zs0, zs1⟩ := hz k
      have r0 := (HS.out.bel.cell (p := ⟨b, off + k * 4, none⟩) hb).trans q0
      have r1 := (HS.out.bel.cell (p := ⟨b, off + k * 4 + 1, none⟩) hb).trans q1
      have r2 := (HS.out.bel.cell (p := ⟨b, off + k * 4 + 2, none⟩) hb).trans q2
      have r3 := (HS.out.bel.cell (p := ⟨b, off + k * 4 + 3, none⟩) hb).trans q3
      clear q0 q1 q2 q3 hc hz
      generalize zp k = p at *
      generalize zo k = o at *
      generalize za k = a at *
      generalize zs k = s at *
      go_wp2_with fail
      refine (key_any o a _ zo0 zo1 za0 za1).mono ?_
      rintro r w2 ⟨rfl, hw2⟩
      have hob : w2.heap[wr.heap.size]? = some (.cells #[.int .u8 p, .int .u8 o, .int .u8 a, .int .u8 s] 47 (0, 0)) := by
        rw [hw2, Below.heap_alloc _ _ _ (by simp)]; exact heap_alloc_new _ _
      have p0 : w2.cell? ⟨wr.heap.size, 0, none⟩ = some (.int .u8 p) := by rw [cell_of_row _ _ _ _ _ _ hob]; rfl
      have p3 : w2.cell? ⟨wr.heap.size, 3, none⟩ = some (.int .u8 s) := by rw [cell_of_row _ _ _ _ _ _ hob]; rfl
      have hol : wr.heap.size < w2.heap.size := (Array.getElem?_eq_some_iff.1 hob).1
      have HS2 : Hid (St w (w.heap.size + 1) w.heap.size (lim) k L u3 w2) := HS.out.still (by rw [hw2]; exact ((Grew.refl _ wr).alloc _).alloc _)
      clear hw2 hob HS r0 r1 r2 r3
      have hko : KeyOk (o % 3, a % 4, o / 3 % 2) := ⟨⟨by simp; omega, by simp; omega⟩, ⟨by simp; omega, by simp; omega⟩, by simp; omega, by simp; omega⟩
      generalize hk1 : o % 3 = ko at *
      generalize hk2 : a % 4 = ka at *
      generalize hk3 : o / 3 % 2 = kk at *
      clear hk1 hk2 hk3 zo0 zo1 za0 za1
      have HS3 : Hid (St w (w.heap.size + 1) w.heap.size (lim) k L u3 (w2.alloc (.cells #[.int .u64 ko, .int .i64 ka, .int .u8 kk] 51))) := HS2.out.still ((Grew.refl _ w2).alloc _)
      have HB3 : Hid (Box (w2.alloc (.cells #[.int .u64 ko, .int .i64 ka, .int .u8 kk] 51)) w2.heap.size ko ka kk) := Box.new w2 ko ka kk
      have hkl : L.length ≤ 1024 := by have := HS2.out.len; omega
      rcases split_key L (ko, ka, kk) with hmiss | ⟨A, x, D, hL, hx, hA⟩
      · have HMS : Hid (∀ x ∈ L, x.k ≠ (ko, ka, kk)) := hmiss
        clear hmiss
        go_wp2_with fail
        refine (put_miss (w.heap.size + 1) w.heap.size (lim) (sm L) k L ko ka kk k (s % 16) _ HS3.out.ls hko HMS.out (by omega) (by omega) (by omega) rfl (by omega) (by omega)).mono ?_
        rintro r w4 ⟨rfl, e, pp, j, he, hpp, hK, hor, hl4, hg4⟩
        have ht4 := HS3.out.tb hg4
        have hb4 := HS3.out.box_tb HB3.out hg4
        obtain ⟨_, k0, k1, k2⟩ := hb4
        have hew : w.heap.size ≤ e := Nat.le_trans HS3.out.bel.size he
        have hLb := sm_bound L (fun x hx => (HS3.out.ls.kok x hx).2)
        obtain ⟨X, hX⟩ : ∃ X : Ent, X = ⟨e, pp, (ko, ka, kk), (k : Int), s % 16⟩ := ⟨_, rfl⟩
        have HX : Hid (X = ⟨e, pp, (ko, ka, kk), (k : Int), s % 16⟩) := hX
        rw [← hX] at hK hor hl4
        have H4 : Hid ((w4.ownsRow w.heap.size 56 5 u3 L.length (flat L) ∧ Below w.heap.size w w4) ∧ Kept (lim) (X :: L) j ∧ (sm ((X :: L).take j) ≤ lim ∨ j = 1) ∧ LS (w.heap.size + 1) w.heap.size (lim) 0 (sm ((X :: L).take j)) (k + 1) ((X :: L).take j) w4) := ⟨ht4, hK, hor, hl4⟩
        have HEB : Hid (∀ x ∈ X :: L, w.heap.size ≤ x.e) := by
          intro y hy
          rcases List.mem_cons.1 hy with rfl | hy
          · rw [hX]; exact hew
          · exact HS3.out.he y hy
        have HXB : Hid (∀ x ∈ X :: L, 0 ≤ x.s ∧ x.s < 16) := by
          intro y hy
          rcases List.mem_cons.1 hy with rfl | hy
          · rw [hX]; simp; omega
          · exact (HS3.out.ls.kok y hy).2
        have hLk : Hid (L.length ≤ k) := HS2.out.len
        clear hX hK hor hl4 hg4 ht4 HS3 HB3 HS2 he hpp hew
        go_wp2_with fail
        refine (find_miss w.heap.size u3 L ko ka kk w4 H4.out.1.1 HMS.out (by omega)).mono ?_
        rintro r w5 ⟨rfl, q, hw5⟩
        have hst5 := still_find hw5
        have ho5 : w5.ownsRow w.heap.size 56 5 u3 L.length (flat L) := ownsRow_grew H4.out.1.1 hst5 (fun _ _ _ h => h)
        have H5 : Hid (Still w4 w5 ∧ w5.ownsRow w.heap.size 56 5 u3 L.length (flat L) ∧ w.heap.size ≤ w5.heap.size) := ⟨hst5, ho5, Nat.le_trans H4.out.1.2.size hst5.size⟩
        have k0' := (hst5.cell _ 0 (lt_cell k0) (fun h => h)).trans k0
        have k1' := (hst5.cell _ 1 (lt_cell k1) (fun h => h)).trans k1
        have k2' := (hst5.cell _ 2 (lt_cell k2) (fun h => h)).trans k2
        clear hw5 hst5 ho5 k0 k1 k2
        go_wp2_with (at_builtin; refine wpList_append_front w5 rfl _ _ rfl w.heap.size ⟨e, pp, (ko, ka, kk), (k : Int), s % 16⟩ L u3 rfl rfl H5.out.2.1 H5.out.2.2 (by omega) ?_; intro v6 w6 hown6 hst6)
        have H6 : Hid (w6.ownsRow w.heap.size 56 5 v6 (X :: L).length (flat (X :: L)) ∧ Still w4 w6) := by
          rw [HX.out]
          exact ⟨hown6, H5.out.1.trans hst6⟩
        clear hown6 hst6 H5 k0' k1' k2'
        have hlL : (X :: L).length = L.length + 1 := rfl
        have HLB : Hid (0 ≤ sm L ∧ sm L ≤ 15 * L.length) := hLb
        go_wp2
        go_loop [3, 4] (fun mv sz => ∃ j', Kept (lim) (X :: L) j' ∧ sz = .int .i64 (sm ((X :: L).take j')) ∧ Hid (w6.ownsRow w.heap.size 56 5 mv j' (flat ((X :: L).take j')))) (fun mv _ => slLen mv)
        case atStart =>
          refine ⟨(X :: L).length, ⟨by simp, Nat.le_refl _, fun i h1 h2 => by omega⟩, ?_, ?_⟩
          · rw [List.take_length]
            simp only [sm, HX.out]
            congr 1
            go_num
          · rw [List.take_length]; exact H6.out.1
        case round =>
          obtain ⟨j', hK', rfl, HO⟩ := hrel
          have hj1 := hK'.lo
          have hj2 := hK'.hi
          have hjl : j' ≤ 1025 := by omega
          have hSb := sm_bound ((X :: L).take j') (fun x hx => HXB.out x (List.mem_of_mem_take hx))
          have hlen : ((X :: L).take j').length = j' := by rw [List.length_take]; omega
          rw [hlen] at hSb
          have HK' : Hid (Kept (lim) (X :: L) j') := hK'
          clear hK' hlL hLb
          obtain ⟨g, cp, rfl, hcp⟩ : ∃ g cp, u3 = .slice (some ⟨g, 0, none⟩) j' cp ∧ j' ≤ cp := by
            rcases HO.out.2 with ⟨_, h0⟩ | ⟨g, cp, cur, hv, _, _, h3, _⟩
            · omega
            · exact ⟨g, cp, hv, h3⟩
          have HEx : ((sm ((X :: L).take j') ≤ lim ∨ j' = 1) → Hid (St w (w.heap.size + 1) w.heap.size (lim) (k + 1) ((X :: L).take j') (.slice (some ⟨g, 0, none⟩) j' cp) w6)) := by
            intro hor'
            have e : j = j' := Kept.unique H4.out.2.1 HK'.out H4.out.2.2.1 hor'
            subst e
            have hl4 := H4.out.2.2.2
            refine ⟨hl4.still H6.out.2, by rw [hlen]; exact HO.out, Still.below H4.out.1.2 H6.out.2, by omega, Nat.le_refl _, fun x hx => HEB.out x (List.mem_of_mem_take hx), by rw [hlen]; have := hLk.out; have h9 : (X :: L).length = L.length + 1 := rfl; omega⟩
          have HEX : Hid ((sm ((X :: L).take j') ≤ lim ∨ j' = 1) → Hid (St w (w.heap.size + 1) w.heap.size (lim) (k + 1) ((X :: L).take j') (.slice (some ⟨g, 0, none⟩) j' cp) w6)) := HEx
          clear HEx
          generalize hSg : sm ((X :: L).take j') = S at hSb
          have HSg : Hid (sm ((X :: L).take j') = S) := hSg
          rw [HSg.out] at HEX
          have hcp0 : ¬ (cp = 0) := by omega
          by_cases h1 : lim < S
          · by_cases h2 : 1 < j'
            · have h2' : (1 : Int) < (j' : Int) := by omega
              obtain ⟨i, rfl⟩ : ∃ i, j' = i + 1 := ⟨j' - 1, by omega⟩
              obtain ⟨y, hy⟩ := take_last (X :: L) i HK'.out.hi
              have hsi := sm_bound ((X :: L).take i) (fun z hz => HXB.out z (List.mem_of_mem_take hz))
              have hil : ((X :: L).take i).length = i := by rw [List.length_take]; omega
              rw [hil] at hsi
              have hyb := HXB.out y (List.mem_of_mem_take (i := i + 1) (by rw [hy]; simp))
              have hSy : S = sm ((X :: L).take i) + y.s := by rw [← HSg.out, hy, sm_append]; simp [sm]
              have ho := HO.out
              rw [hy] at ho
              have hc5 := (item_cells (A := (X :: L).take i) (D := []) (x := y) (g := g) (cap := cp) (w := w6) (B := w.heap.size) (by rw [List.length_append, hil]; exact ho)).2.2.2.2
              rw [hil] at hc5
              have hpop := own_pop ho hil
              have HR : Hid (w6.ownsRow w.heap.size 56 5 (.slice (some ⟨g, 0, none⟩) i cp) i (flat ((X :: L).take i)) ∧ S = sm ((X :: L).take i) + y.s ∧ lim < S) := ⟨hpop, hSy, h1⟩
              have hys : 0 ≤ S - y.s := by omega
              have hi1 : (((i + 1 : Nat) : Int) - 1) = (i : Int) := by omega
              clear hpop hSy ho hy hsi hil HO HEX hSg
              go_wp2
              go_round
              case rel =>
                refine ⟨i, ⟨by omega, by omega, fun q h3 h4 => ?_⟩, ?_, HR.out.1⟩
                · by_cases h5 : q = i + 1
                  · subst h5; rw [HSg.out]; exact HR.out.2.2
                  · exact HK'.out.more q (by omega) h4
                · congr 1
                  have := HR.out.2.1
                  omega
              case measure => simp [slLen]
            · have h2' : ¬ ((1 : Int) < (j' : Int)) := by omega
              have HE := HEX.out (.inr (by omega))
              clear HEX hSg
              go_wp2
              go_roundw
              case rel => exact ⟨k + 1, (X :: L).take j', by omega, by go_num, by rw [HSg.out], HE⟩
              case measure => simp [intOf]; omega
          · have HE := HEX.out (.inl (by omega))
            clear HEX hSg
            have h1' : decide (lim < S) = false := by simp; omega
            go_wp2
            go_roundw
            case rel => exact ⟨k + 1, (X :: L).take j', by omega, by go_num, by rw [HSg.out], HE⟩
            case measure => simp [intOf]; omega
      · have HL : Hid (L = A ++ x :: D) := hL
        have HX : Hid (x.k = (ko, ka, kk)) := hx
        clear hL hx
        go_wp2_with fail
        refine (put_hit (w.heap.size + 1) w.heap.size (lim) (sm L) k L x ko ka kk k (s % 16) _ HS3.out.ls (by rw [HL.out]; simp) HX.out).mono ?_
        rintro r w4 ⟨rfl, hl4, hg4⟩
        have HS4 : Hid (St w (w.heap.size + 1) w.heap.size (lim) k L u3 w4) := HS3.out.same hg4 hl4
        have hb4 := HS3.out.box_tb HB3.out (hg4.mono (fun _ _ _ ht => TB_of_TC ht))
        obtain ⟨_, k0, k1, k2⟩ := hb4
        clear hl4 hg4 HS3 HB3 HS2
        go_wp2_with fail
        refine (find_hit w.heap.size u3 A D x ko ka kk w4 (by rw [← HL.out]; exact HS4.out.own) hA HX.out (by rw [← HL.out]; omega)).mono ?_
        rintro r w5 ⟨rfl, q, hw5⟩
        have HS5 : Hid (St w (w.heap.size + 1) w.heap.size (lim) k L u3 w5) := HS4.out.still (still_find hw5)
        clear hw5 HS4 k0 k1 k2
        have hAl : ¬ ((A.length : Int) < 0) := by omega
        go_wp2
        go_roundw
        case rel => exact ⟨k + 1, L, by omega, by go_num, rfl, HS5.out.mono (by omega)⟩
        case measure => simp [intOf]; omega
    · have hkn : k = n := by omega
      subst hkn
      go_wp2
      go_ret2
      exact ⟨L, _, rfl, HS.out⟩
end Go.Proofs.Ybulkbgci
