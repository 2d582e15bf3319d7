/-
  The law LawS2855CFront: the walk.
-/
import Derived.Test.YbulkbgciFrontBase
namespace Go.Proofs.Ybulkbgci
open Go.RowKit Go.MuLone
set_option linter.unusedVariables false

theorem len65 (w : World) (r : Nat) (es : Array MapEntry) (cl : Nat) (hb : w.heap[r]? = some (.map es cl)) : (Builtin.len_ #[65] 3 #[.map (some r)]).run Yba.prog w = .ok (.int .i64 es.size) w := by
  have := run_getObj_map (P := Yba.prog) w r es cl hb
  simp [Builtin.len_, run_underlying Yba.underlying65, this, goInt]

theorem other_mem {A D A1 A2 : List Ent} {x y : Ent} (h : A ++ x :: D = A1 ++ y :: A2) (hne : A1.length ≠ A.length) : y ∈ A ∨ y ∈ D := by
  have h1 : (A ++ x :: D)[A1.length]? = some y := by rw [h]; simp
  rcases Nat.lt_or_ge A1.length A.length with h2 | h2
  · rw [List.getElem?_append_left h2] at h1
    exact .inl (List.mem_of_getElem? h1)
  · rw [List.getElem?_append_right h2] at h1
    obtain ⟨i, hi⟩ : ∃ i, A1.length - A.length = i + 1 := ⟨A1.length - A.length - 1, by omega⟩
    rw [hi, List.getElem?_cons_succ] at h1
    exact .inr (List.mem_of_getElem? h1)

set_option maxRecDepth 100000 in
set_option maxHeartbeats 8000000 in
theorem front_row (lm : Int) (a1 : Option Addr) (n cap : Nat) (oo aa : Int) (zp zo za zs : Nat → Int) (w : World) (hn : n ≤ 1024) (hlm0 : 0 ≤ lm) (hlm1 : lm ≤ 255) (ho0 : 0 ≤ oo) (ho1 : oo ≤ 255) (ha0 : 0 ≤ aa) (ha1 : aa ≤ 255)
    (hz : ∀ j, (0 ≤ zp j ∧ zp j ≤ 255) ∧ (0 ≤ zo j ∧ zo j ≤ 255) ∧ (0 ≤ za j ∧ za j ≤ 255) ∧ (0 ≤ zs j ∧ zs j ≤ 255))
    (hc : ∀ j, j < n → ∃ b off, a1 = some ⟨b, off, none⟩ ∧ b < w.heap.size ∧ w.cell? ⟨b, off + j * 4, none⟩ = some (.int .u8 (zp j)) ∧ w.cell? ⟨b, off + j * 4 + 1, none⟩ = some (.int .u8 (zo j)) ∧ w.cell? ⟨b, off + j * 4 + 2, none⟩ = some (.int .u8 (za j)) ∧ w.cell? ⟨b, off + j * 4 + 3, none⟩ = some (.int .u8 (zs j))) :
    Calls Yba.prog 5 #[.int .u8 lm, .slice a1 n cap, .int .u8 oo, .int .u8 aa] w fun e w' => e = .returned (.bool true) ∧ Below w.heap.size w w' := by
  have hn' : (n : Int) ≤ 1024 := by omega
  go_enter Yba.func5, Yba.ntmps5
  go_wp2_with fail
  refine (new_any (lm % 64) w).mono ?_
  rintro r w1 ⟨rfl, hls, hst⟩
  have H0 : St w (w.heap.size + 1) w.heap.size (lm % 64) 0 [] (.slice none 0 0) w1 := ⟨hls, World.ownsRow_nil _ _ _ _, Still.below (Below.refl _ _) hst, by omega, Nat.le_refl _, fun x hx => by simp at hx, Nat.le_refl _⟩
  clear hls hst
  go_wp2_with fail
  refine (fill_any (lm % 64) a1 n cap zp zo za zs w w1 hn (by omega) (by omega) hz hc H0).mono ?_
  rintro r w2 ⟨L, m, rfl, hS2⟩
  have HS2 : Hid (St w (w.heap.size + 1) w.heap.size (lm % 64) n L m w2) := hS2
  clear hS2 H0 hz hc
  go_wp2_with fail
  refine (key_any oo aa _ ho0 ho1 ha0 ha1).mono ?_
  rintro r w3 ⟨rfl, hw3⟩
  have HS3 : Hid (St w (w.heap.size + 1) w.heap.size (lm % 64) n L m w3) := HS2.out.still (by rw [hw3]; exact (Grew.refl _ w2).alloc _)
  clear hw3 HS2
  have hko : KeyOk (oo % 3, aa % 4, oo / 3 % 2) := ⟨⟨by simp; omega, by simp; omega⟩, ⟨by simp; omega, by simp; omega⟩, by simp; omega, by simp; omega⟩
  generalize hk1 : oo % 3 = ko at *
  generalize hk2 : aa % 4 = ka at *
  generalize hk3 : oo / 3 % 2 = kk at *
  clear hk1 hk2 hk3 ho0 ho1 ha0 ha1
  have HS4 : Hid (St w (w.heap.size + 1) w.heap.size (lm % 64) n L m (w3.alloc (.cells #[.int .u64 ko, .int .i64 ka, .int .u8 kk] 51))) := HS3.out.still ((Grew.refl _ w3).alloc _)
  have HB4 : Hid (Box (w3.alloc (.cells #[.int .u64 ko, .int .i64 ka, .int .u8 kk] 51)) w3.heap.size ko ka kk) := Box.new w3 ko ka kk
  have hkl : L.length ≤ 1024 := by have := HS3.out.len; omega
  clear HS3
  go_wp2_with fail
  refine (order_any (w.heap.size + 1) w.heap.size (lm % 64) 0 (sm L) n L _ HS4.out.ls (by omega)).mono ?_
  rintro r w5 ⟨bef, rfl, ho5, hst5⟩
  have HS5 : Hid (St w (w.heap.size + 1) w.heap.size (lm % 64) n L m w5) := HS4.out.still hst5
  have HB5 : Hid (Box w5 w3.heap.size ko ka kk) := HB4.out.keep hst5 (fun _ h => h)
  have HK5 : Hid (Keys w5 bef L) := own_base ho5
  clear ho5 hst5 HS4 HB4
  have c3 := HS5.out.ls.sz
  have c5 := HS5.out.ls.prt
  obtain ⟨es, cl, hM⟩ : ∃ es cl, w5.heap[w.heap.size]? = some (.map es cl) := by
    obtain ⟨D, ⟨es, cl, h1, _⟩, _⟩ := HS5.out.ls.mp
    exact ⟨es, cl, h1⟩
  have hl5 := len65 w5 w.heap.size es cl hM
  have hb5 := HB5.out
  obtain ⟨_, k0, k1, k2⟩ := hb5
  have hbM : w3.heap.size ≠ w.heap.size := fun e => HS5.out.ls.mp.notRow HB5.out.row e.symm
  have hnM : ∀ o, ¬ TC (w.heap.size + 1) (L.map Ent.e) w.heap.size o := by
    intro o ht
    rcases ht with ⟨h1, _⟩ | ⟨h1, _⟩
    · omega
    · exact HS5.out.ls.mp.notRow (HS5.out.ls.ring.rows _ h1) rfl
  have HNM : Hid (∀ o, ¬ TC (w.heap.size + 1) (L.map Ent.e) w.heap.size o) := hnM
  clear hnM
  rcases split_key L (ko, ka, kk) with hmiss | ⟨A, x, D, hL, hx, hA⟩
  · go_wp2_with fail
    refine (get_miss (w.heap.size + 1) w.heap.size (lm % 64) (sm L) n L ko ka kk _ HS5.out.ls hko hmiss).mono ?_
    rintro r w6 ⟨rfl, hl6, hg6⟩
    have HS6 : Hid (St w (w.heap.size + 1) w.heap.size (lm % 64) n L m w6) := HS5.out.same hg6 hl6
    have HB6 : Hid (Box w6 w3.heap.size ko ka kk) := HS5.out.box_tb HB5.out (hg6.mono (fun _ _ _ ht => TB_of_TC ht))
    have HK6 : Hid (Keys w6 bef L) := own_grew HK5.out hg6 (fun g o hr ht => HS5.out.ls.notTB hr (by decide) (by decide) (TB_of_TC ht))
    have hM6 := (hg6.blk _ (Array.getElem?_eq_some_iff.1 hM).1 HNM.out).trans hM
    clear hl6 hg6 hM hl5 c3 c5 k0 k1 k2 HS5 HB5 HK5
    go_wp2_with fail
    refine (order_any (w.heap.size + 1) w.heap.size (lm % 64) 0 (sm L) n L _ HS6.out.ls (by omega)).mono ?_
    rintro r w7 ⟨aft, rfl, ho7, hst7⟩
    have hS7 : St w (w.heap.size + 1) w.heap.size (lm % 64) n L m w7 := HS6.out.still hst7
    have c3 := hS7.ls.sz
    have c5 := hS7.ls.prt
    have hl7 := len65 w7 w.heap.size es cl ((hst7.blk _ (Array.getElem?_eq_some_iff.1 hM6).1 (fun _ h => h)).trans hM6)
    have HF : Hid (Fin w w7 L.length w3.heap.size L L m bef aft ko ka kk) := ⟨hS7.bel, hS7.own, HK6.out.still hst7, own_base ho7, HB6.out.keep hst7 (fun _ h => h), rfl, rfl⟩
    clear ho7 hst7 HS6 HB6 HK6 hM6 hS7
    obtain ⟨ab, cb, rfl, hab⟩ := own_slice HF.out.kb
    obtain ⟨af, cf, rfl, haf⟩ := own_slice HF.out.kf
    have HMS : Hid (∀ x ∈ L, x.k ≠ (ko, ka, kk)) := hmiss
    have hgd := guard51
    go_wp2
    clear c3 c5 hl7 hmiss
    generalize hN : L.length = N at *
    have HN : Hid (L.length = N) := hN
    clear hN
    go_loopw [20, 21] (fun j i wr => ∃ k : Nat, k ≤ N ∧ j = .int .i64 (-1) ∧ i = .int .i64 k ∧ Hid (Fin w wr N w3.heap.size L L m (.slice ab N cb) (.slice af N cf) ko ka kk)) (fun _ i _ => N - (intOf i).toNat)
    case atStart => exact ⟨0, Nat.zero_le _, rfl, rfl, HF⟩
    case round =>
      clear HF
      obtain ⟨k, hk, rfl, rfl, HF⟩ := hrel
      have hb := HF.out.box
      obtain ⟨_, k0, k1, k2⟩ := hb
      by_cases hlt : k < N
      · have i0 : (k : Int) < (N : Int) := by omega
        obtain ⟨g, rfl⟩ := hab (by omega)
        obtain ⟨A1, y, A2, hA1, hA2⟩ := split_at L k (by rw [HN.out]; exact hlt)
        have hc := HF.out.kb.at hA1
        rw [hA2] at hc
        obtain ⟨c0, c1, c2⟩ := hc
        have heq : ∀ w, (binOp .eql 51 (.agg #[.int .u64 y.k.1, .int .i64 y.k.2.1, .int .u8 y.k.2.2]) (.agg #[.int .u64 ko, .int .i64 ka, .int .u8 kk])).run Yba.prog w = .ok (.bool false) w := by
          intro w
          have h1 := HMS.out y (by rw [hA1]; simp)
          rw [eql51, decide_eq_false (fun e => h1 (by rw [← e]))]
        clear hA1 hA2
        go_wp2
        go_quiet (fail)
        go_wp2
        go_roundw
        case rel => exact ⟨k + 1, by omega, rfl, by go_num, HF.out.still ((Grew.refl _ wr).drewN nq)⟩
        case measure => simp [intOf]; omega
      · go_wp2_with fail
        refine (find_miss w.heap.size m L ko ka kk wr HF.out.own HMS.out (by rw [HN.out]; omega)).mono ?_
        rintro r w8 ⟨rfl, q, hw8⟩
        have HF8 : Hid (Fin w w8 N w3.heap.size L L m (.slice ab N cb) (.slice af N cf) ko ka kk) := HF.out.still (still_find hw8)
        clear hw8 HF k0 k1 k2
        have hne := neq51
        go_wp2
        go_loopw [22] (fun i wr => ∃ k : Nat, k ≤ N ∧ i = .int .i64 k ∧ Hid (Fin w wr N w3.heap.size L L m (.slice ab N cb) (.slice af N cf) ko ka kk)) (fun i _ => N - (intOf i).toNat)
        case atStart => exact ⟨0, Nat.zero_le _, rfl, HF8⟩
        case round =>
          clear HF8
          obtain ⟨k, hk, rfl, HF⟩ := hrel
          by_cases hlt : k < N
          · have i0 : (k : Int) < (N : Int) := by omega
            obtain ⟨g, rfl⟩ := hab (by omega)
            obtain ⟨g', rfl⟩ := haf (by omega)
            obtain ⟨A1, y, A2, hA1, hA2⟩ := split_at L k (by rw [HN.out]; exact hlt)
            have hc := HF.out.kb.at hA1
            have hd := HF.out.kf.at hA1
            rw [hA2] at hc hd
            obtain ⟨c0, c1, c2⟩ := hc
            obtain ⟨d0, d1, d2⟩ := hd
            clear hA1 hA2
            go_wp2
            go_quiet (fail)
            go_wp2
            go_roundw
            case rel => exact ⟨k + 1, by omega, by go_num, HF.out.still ((Grew.refl _ wr).drewN nq)⟩
            case measure => simp [intOf]; omega
          · have HB := HF.out.bel
            go_wp2
            go_ret
            exact ⟨rfl, HB⟩
  · have HL : Hid (L = A ++ x :: D) := hL
    have HX : Hid (x.k = (ko, ka, kk)) := hx
    have HA : Hid (∀ y ∈ A, y.k ≠ (ko, ka, kk)) := hA
    have HD : Hid (∀ y ∈ D, y.k ≠ (ko, ka, kk)) := by
      intro y hy
      have h1 := HS5.out.ls.keys
      rw [hL] at h1
      have h2 := (List.pairwise_cons.1 (List.pairwise_append.1 h1).2.1).1 y hy
      rw [hx] at h2
      exact fun e => h2 e.symm
    have hlA : A.length < L.length := by rw [hL]; simp
    clear hL hx hA
    go_wp2_with fail
    refine (get_hit (w.heap.size + 1) w.heap.size (lm % 64) (sm L) n A D x ko ka kk _ (by rw [← HL.out]; exact HS5.out.ls) HX.out).mono ?_
    rintro r w6 ⟨rfl, hl6, hg6⟩
    rw [← HL.out] at hg6
    have ht6 := HS5.out.tb (hg6.mono (fun _ _ _ ht => TB_of_TC ht))
    have HS6 : Hid (LS (w.heap.size + 1) w.heap.size (lm % 64) 0 (sm L) n (x :: (A ++ D)) w6 ∧ w6.ownsRow w.heap.size 56 5 m L.length (flat L) ∧ Below w.heap.size w w6) := ⟨hl6, ht6⟩
    have HB6 : Hid (Box w6 w3.heap.size ko ka kk) := HS5.out.box_tb HB5.out (hg6.mono (fun _ _ _ ht => TB_of_TC ht))
    have HK6 : Hid (Keys w6 bef L) := own_grew HK5.out hg6 (fun g o hr ht => HS5.out.ls.notTB hr (by decide) (by decide) (TB_of_TC ht))
    have hM6 := (hg6.blk _ (Array.getElem?_eq_some_iff.1 hM).1 HNM.out).trans hM
    have hLa : (x :: (A ++ D)).length = L.length := by rw [HL.out]; simp; omega
    clear hl6 hg6 hM hl5 c3 c5 k0 k1 k2 HS5 HB5 HK5 ht6
    go_wp2_with fail
    refine (order_any (w.heap.size + 1) w.heap.size (lm % 64) 0 (sm L) n (x :: (A ++ D)) _ HS6.out.1 (by rw [hLa]; omega)).mono ?_
    rintro r w7 ⟨aft, rfl, ho7, hst7⟩
    have hS7 := HS6.out.1.still hst7
    have c3 := hS7.sz
    have c5 := hS7.prt
    have hl7 := len65 w7 w.heap.size es cl ((hst7.blk _ (Array.getElem?_eq_some_iff.1 hM6).1 (fun _ h => h)).trans hM6)
    have HF : Hid (Fin w w7 L.length w3.heap.size L (x :: (A ++ D)) m bef aft ko ka kk) := ⟨Still.below HS6.out.2.2 hst7, own_still HS6.out.2.1 hst7, HK6.out.still hst7, own_base ho7, HB6.out.keep hst7 (fun _ h => h), rfl, hLa⟩
    clear ho7 hst7 HS6 HB6 HK6 hM6 hS7
    obtain ⟨ab, cb, rfl, hab⟩ := own_slice HF.out.kb
    obtain ⟨af, cf, rfl, haf⟩ := own_slice HF.out.kf
    rw [hLa] at HF haf
    obtain ⟨gb, rfl⟩ := hab (by omega)
    obtain ⟨gf, rfl⟩ := haf (by omega)
    have hgd := guard51
    try rw [hLa]
    obtain ⟨am, cm, rfl, ham⟩ := own_slice HF.out.own
    obtain ⟨gm, rfl⟩ := ham (by omega)
    go_wp2
    clear c3 c5 hl7
    generalize hN : L.length = N at *
    have HN : Hid (L.length = N) := hN
    have HLa : Hid ((x :: (A ++ D)).length = N) := hLa
    clear hN hLa
    go_loopw [20, 21] (fun j i wr => ∃ k : Nat, k ≤ N ∧ j = .int .i64 (if k ≤ A.length then -1 else A.length) ∧ i = .int .i64 k ∧ Hid (Fin w wr N w3.heap.size L (x :: (A ++ D)) (.slice (some ⟨gm, 0, none⟩) N cm) (.slice (some ⟨gb, 0, none⟩) N cb) (.slice (some ⟨gf, 0, none⟩) N cf) ko ka kk)) (fun _ i _ => N - (intOf i).toNat)
    case atStart => exact ⟨0, Nat.zero_le _, by simp, rfl, HF⟩
    case round =>
      clear HF
      obtain ⟨k, hk, rfl, rfl, HF⟩ := hrel
      have hb := HF.out.box
      obtain ⟨_, k0, k1, k2⟩ := hb
      by_cases hlt : k < N
      · have i0 : (k : Int) < (N : Int) := by omega
        by_cases hkA : k = A.length
        · subst hkA
          obtain ⟨c0, c1, c2⟩ := HF.out.kb.at HL.out
          have heq : ∀ w, (binOp .eql 51 (.agg #[.int .u64 x.k.1, .int .i64 x.k.2.1, .int .u8 x.k.2.2]) (.agg #[.int .u64 ko, .int .i64 ka, .int .u8 kk])).run Yba.prog w = .ok (.bool true) w := by
            intro w
            rw [eql51, decide_eq_true (by rw [← HX.out])]
          go_wp2
          go_quiet (fail)
          go_wp2
          go_roundw
          case rel => exact ⟨A.length + 1, by omega, by rw [if_neg (by omega)], by go_num, HF.out.still ((Grew.refl _ wr).drewN nq)⟩
          case measure => simp [intOf]; omega
        · obtain ⟨A1, y, A2, hA1, hA2⟩ := split_at L k (by rw [HN.out]; exact hlt)
          have hc := HF.out.kb.at hA1
          rw [hA2] at hc
          obtain ⟨c0, c1, c2⟩ := hc
          have heq : ∀ w, (binOp .eql 51 (.agg #[.int .u64 y.k.1, .int .i64 y.k.2.1, .int .u8 y.k.2.2]) (.agg #[.int .u64 ko, .int .i64 ka, .int .u8 kk])).run Yba.prog w = .ok (.bool false) w := by
            intro w
            have h1 : y.k ≠ (ko, ka, kk) := (other_mem (HL.out.symm.trans hA1) (by rw [hA2]; exact hkA)).elim (HA.out y) (HD.out y)
            rw [eql51, decide_eq_false (fun e => h1 (by rw [← e]))]
          clear hA1 hA2
          generalize hJ : (if k ≤ A.length then (-1 : Int) else A.length) = J at *
          have HJ : Hid ((if k ≤ A.length then (-1 : Int) else A.length) = J) := hJ
          clear hJ
          go_wp2
          go_quiet (fail)
          go_wp2
          go_roundw
          case rel => exact ⟨k + 1, by omega, by rw [← HJ.out]; by_cases h : k ≤ A.length <;> simp [h] <;> omega, by go_num, HF.out.still ((Grew.refl _ wr).drewN nq)⟩
          case measure => simp [intOf]; omega
      · rw [if_neg (by omega)]
        have hA0 : ¬ ((A.length : Int) < 0) := by omega
        have hd := HF.out.kf.at (A := []) rfl
        rw [HX.out] at hd
        simp only [List.length_nil, Nat.zero_mul, Nat.zero_add] at hd
        obtain ⟨d0, d1, d2⟩ := hd
        have hne := neq51
        go_wp2
        go_quiet (fail)
        go_wp2_with fail
        have ho8 := (HF.out.still ((Grew.refl _ wr).drewN nq)).own
        have HF8 : Hid (Fin w (wr.drewN nq) N w3.heap.size L (x :: (A ++ D)) (.slice (some ⟨gm, 0, none⟩) N cm) (.slice (some ⟨gb, 0, none⟩) N cb) (.slice (some ⟨gf, 0, none⟩) N cf) ko ka kk) := HF.out.still ((Grew.refl _ wr).drewN nq)
        refine (find_hit w.heap.size (.slice (some ⟨gm, 0, none⟩) N cm) A D x ko ka kk (wr.drewN nq) (by rw [← HL.out]; exact ho8) HA.out HX.out (by rw [← HL.out, HN.out]; omega)).mono ?_
        rintro r w9 ⟨rfl, q, hw9⟩
        have HF9 : Hid (Fin w w9 N w3.heap.size L (x :: (A ++ D)) (.slice (some ⟨gm, 0, none⟩) N cm) (.slice (some ⟨gb, 0, none⟩) N cb) (.slice (some ⟨gf, 0, none⟩) N cf) ko ka kk) := HF8.out.still (still_find hw9)
        have c5 := (item_cells (A := A) (D := D) (x := x) (g := gm) (cap := cm) (w := w9) (B := w.heap.size) (by
          have := HF9.out.own
          rw [HL.out] at this
          rw [show (A ++ x :: D).length = N by rw [← HL.out]; exact HN.out] at this ⊢
          exact this)).2.2.2.1
        clear hw9 HF HF8 k0 k1 k2 d0 d1 d2 ho8
        have hta := assert3
        have iA : (A.length : Int) < (N : Int) := by omega
        go_wp2
        clear c5
        go_loopw [26] (fun i wr => ∃ k : Nat, k ≤ A.length ∧ i = .int .i64 k ∧ Hid (Fin w wr N w3.heap.size L (x :: (A ++ D)) (.slice (some ⟨gm, 0, none⟩) N cm) (.slice (some ⟨gb, 0, none⟩) N cb) (.slice (some ⟨gf, 0, none⟩) N cf) ko ka kk)) (fun i _ => A.length - (intOf i).toNat)
        case atStart => exact ⟨0, Nat.zero_le _, rfl, HF9⟩
        case round =>
          clear HF9
          obtain ⟨k, hk, rfl, HF⟩ := hrel
          by_cases hlt : k < A.length
          · have i0 : (k : Int) < (N : Int) := by omega
            have i1 : (k : Int) + 1 < (N : Int) := by omega
            have i2 : (k : Int) < (A.length : Int) := by omega
            obtain ⟨A1, y, A2, hA1, hA2⟩ := split_at A k hlt
            have hc := HF.out.kb.at (A := A1) (x := y) (D := A2 ++ x :: D) (by rw [HL.out, hA1]; simp)
            have hd := HF.out.kf.at (A := x :: A1) (x := y) (D := A2 ++ D) (by rw [hA1]; simp)
            rw [hA2] at hc
            rw [List.length_cons, hA2] at hd
            obtain ⟨c0, c1, c2⟩ := hc
            obtain ⟨d0, d1, d2⟩ := hd
            have HAE : Hid (A = A1 ++ y :: A2) := hA1
            clear hA1 hA2
            go_wp2
            go_quiet (fail)
            go_wp2
            go_roundw
            case rel => exact ⟨k + 1, by omega, by go_num, HF.out.still ((Grew.refl _ wr).drewN nq)⟩
            case measure => simp [intOf]; omega
          · have i2 : ¬ ((k : Int) < (A.length : Int)) := by omega
            go_wp2
            go_loopw [27] (fun i wr => ∃ k : Nat, A.length + 1 ≤ k ∧ k ≤ N ∧ i = .int .i64 k ∧ Hid (Fin w wr N w3.heap.size L (x :: (A ++ D)) (.slice (some ⟨gm, 0, none⟩) N cm) (.slice (some ⟨gb, 0, none⟩) N cb) (.slice (some ⟨gf, 0, none⟩) N cf) ko ka kk)) (fun i _ => N - (intOf i).toNat)
            case atStart => exact ⟨A.length + 1, Nat.le_refl _, by omega, by go_num, HF⟩
            case round =>
              clear HF
              obtain ⟨k, hk0, hk, rfl, HF⟩ := hrel
              by_cases hlt : k < N
              · have i0 : (k : Int) < (N : Int) := by omega
                obtain ⟨t, rfl⟩ : ∃ t, k = A.length + 1 + t := ⟨k - A.length - 1, by omega⟩
                have hDl : A.length + 1 + D.length = N := by rw [← HN.out, HL.out]; simp; omega
                obtain ⟨D1, y, D2, hD1, hD2⟩ := split_at D t (by omega)
                have hc := HF.out.kb.at (A := A ++ x :: D1) (x := y) (D := D2) (by rw [HL.out, hD1]; simp)
                have hd := HF.out.kf.at (A := x :: (A ++ D1)) (x := y) (D := D2) (by rw [hD1]; simp)
                rw [show (A ++ x :: D1).length = A.length + 1 + t by simp [hD2]; omega] at hc
                rw [show (x :: (A ++ D1)).length = A.length + 1 + t by simp [hD2]; omega] at hd
                obtain ⟨c0, c1, c2⟩ := hc
                obtain ⟨d0, d1, d2⟩ := hd
                have HDE : Hid (D = D1 ++ y :: D2) := hD1
                clear hD1 hD2
                generalize A.length + 1 + t = k at *
                go_wp2
                go_quiet (fail)
                go_wp2
                go_roundw
                case rel => exact ⟨k + 1, by omega, by omega, by go_num, HF.out.still ((Grew.refl _ wr).drewN nq)⟩
                case measure => simp [intOf]; omega
              · have HB := HF.out.bel
                go_wp2
                go_ret
                exact ⟨rfl, HB⟩
end Go.Proofs.Ybulkbgci
