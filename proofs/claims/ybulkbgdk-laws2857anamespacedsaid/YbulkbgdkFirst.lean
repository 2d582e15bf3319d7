/-
  The law LawS2857AFirst: the walk.
-/
import Derived.Test.YbulkbgdkSame
namespace Go.Proofs.Ybulkbgdk
open Go.RowKit
set_option linter.unusedVariables false

theorem still_alloc (w : World) (o : Obj) : Still w (w.alloc o) := (Below.refl _ _).alloc (Nat.le_refl _) o

theorem first_long (a1 : Option Addr) (n cap : Nat) (name : ByteArray) (p : Int) (w : World) (hn : 1024 < n) :
    Calls Yba.prog 3 #[.slice a1 n cap, .string name, .int .u8 p] w fun e w' => e = .returned (.bool true) ∧ Below w.heap.size w w' := by
  have hn' : (1024 : Int) < (n : Int) := by omega
  go_enter Yba.func3, Yba.ntmps3
  go_wp2
  go_ret
  exact ⟨rfl, Below.refl _ _⟩

set_option maxRecDepth 100000 in
set_option maxHeartbeats 8000000 in
theorem first_row (a1 : Option Addr) (n cap : Nat) (name : ByteArray) (p : Int) (L : List At) (w : World) (hn : L.length = n) (hn1 : n ≤ 1024) (hp0 : 0 ≤ p) (hp1 : p ≤ 255) (hnil : a1 = none → n = 0 ∧ cap = 0) (hin : In w a1 L) :
    Calls Yba.prog 3 #[.slice a1 n cap, .string name, .int .u8 p] w fun e w' => e = .returned (.bool true) ∧ Below w.heap.size w w' := by
  have hn' : (n : Int) ≤ 1024 := by omega
  by_cases hc : 0 < n ∧ p % 2 = 0
  · obtain ⟨hc1, hc2⟩ := hc
    have hc1' : (0 : Int) < (n : Int) := by omega
    have hn0 : ¬ ((n : Int) = 0) := by omega
    have hr0 : 0 ≤ p / 2 % (n : Int) := Int.emod_nonneg _ hn0
    have hr1 : p / 2 % (n : Int) < (n : Int) := Int.emod_lt_of_pos _ hc1'
    obtain ⟨q, hq⟩ : ∃ q : Nat, p / 2 % (n : Int) = (q : Int) := ⟨(p / 2 % (n : Int)).toNat, by omega⟩
    obtain ⟨A0, x0, D0, hL0, hA0⟩ := split_at L q (by omega)
    obtain ⟨b, off, rfl, _, q1, _⟩ := hin A0 x0 D0 hL0
    rw [hA0] at q1
    clear hL0 hA0
    go_enter Yba.func3, Yba.ntmps3
    go_wp2_with fail
    refine (build_any (some ⟨b, off, none⟩) n cap L w hn hn1 hnil hin).mono ?_
    rintro r w1 ⟨v, rfl, hown, hst⟩
    obtain ⟨av, cv, hav, _⟩ := hown.slice
    rw [hn] at hav
    subst hav
    have H1 : Hid (Own w1 w.heap.size (.slice av n cv) L ∧ Still w w1 ∧ In w1 (some ⟨b, off, none⟩) L) := ⟨hown, hst, hin.still hst⟩
    have HN : Hid (L.length = n) := hn
    clear hown hst hin hnil hn
    have hE := heap_alloc_new w1 (.cells #[.string ⟨#[115]⟩, .string ⟨#[112, 117, 98, 108, 105, 115, 104]⟩, .string ⟨#[112, 117, 98, 108, 105, 115, 104]⟩, .slice av n cv, .int .i64 3] 29)
    have hE3 : (w1.alloc (.cells #[.string ⟨#[115]⟩, .string ⟨#[112, 117, 98, 108, 105, 115, 104]⟩, .string ⟨#[112, 117, 98, 108, 105, 115, 104]⟩, .slice av n cv, .int .i64 3] 29)).cell? ⟨w1.heap.size, 3, none⟩ = some (.slice av n cv) := by rw [cell_of_row _ _ _ _ _ _ hE]; rfl
    have hE0 : (w1.alloc (.cells #[.string ⟨#[115]⟩, .string ⟨#[112, 117, 98, 108, 105, 115, 104]⟩, .string ⟨#[112, 117, 98, 108, 105, 115, 104]⟩, .slice av n cv, .int .i64 3] 29)).cell? ⟨w1.heap.size, 0, none⟩ = some (.string ⟨#[115]⟩) := by rw [cell_of_row _ _ _ _ _ _ hE]; rfl
    have hE1 : (w1.alloc (.cells #[.string ⟨#[115]⟩, .string ⟨#[112, 117, 98, 108, 105, 115, 104]⟩, .string ⟨#[112, 117, 98, 108, 105, 115, 104]⟩, .slice av n cv, .int .i64 3] 29)).cell? ⟨w1.heap.size, 1, none⟩ = some (.string ⟨#[112, 117, 98, 108, 105, 115, 104]⟩) := by rw [cell_of_row _ _ _ _ _ _ hE]; rfl
    have hE4 : (w1.alloc (.cells #[.string ⟨#[115]⟩, .string ⟨#[112, 117, 98, 108, 105, 115, 104]⟩, .string ⟨#[112, 117, 98, 108, 105, 115, 104]⟩, .slice av n cv, .int .i64 3] 29)).cell? ⟨w1.heap.size, 4, none⟩ = some (.int .i64 3) := by rw [cell_of_row _ _ _ _ _ _ hE]; rfl
    have H2 : Hid (Own (w1.alloc (.cells #[.string ⟨#[115]⟩, .string ⟨#[112, 117, 98, 108, 105, 115, 104]⟩, .string ⟨#[112, 117, 98, 108, 105, 115, 104]⟩, .slice av n cv, .int .i64 3] 29)) w.heap.size (.slice av n cv) L ∧ Still w (w1.alloc (.cells #[.string ⟨#[115]⟩, .string ⟨#[112, 117, 98, 108, 105, 115, 104]⟩, .string ⟨#[112, 117, 98, 108, 105, 115, 104]⟩, .slice av n cv, .int .i64 3] 29)) ∧ In (w1.alloc (.cells #[.string ⟨#[115]⟩, .string ⟨#[112, 117, 98, 108, 105, 115, 104]⟩, .string ⟨#[112, 117, 98, 108, 105, 115, 104]⟩, .slice av n cv, .int .i64 3] 29)) (some ⟨b, off, none⟩) L) :=
      ⟨H1.out.1.still (still_alloc w1 _), H1.out.2.1.alloc _, H1.out.2.2.still (still_alloc w1 _)⟩
    clear hE H1
    go_wp2_with fail
    refine (look_any w1.heap.size w.heap.size x0.l (.slice av n cv) L _ hE3 H2.out.1 (by rw [HN.out]; omega)).mono ?_
    rintro r w2 ⟨rfl, hs2⟩
    have hsz : w1.heap.size < (w1.alloc (.cells #[.string ⟨#[115]⟩, .string ⟨#[112, 117, 98, 108, 105, 115, 104]⟩, .string ⟨#[112, 117, 98, 108, 105, 115, 104]⟩, .slice av n cv, .int .i64 3] 29)).heap.size := by simp
    have g3 := (hs2.cell (p := ⟨w1.heap.size, 3, none⟩) hsz).trans hE3
    have g0 := (hs2.cell (p := ⟨w1.heap.size, 0, none⟩) hsz).trans hE0
    have g1 := (hs2.cell (p := ⟨w1.heap.size, 1, none⟩) hsz).trans hE1
    have g4 := (hs2.cell (p := ⟨w1.heap.size, 4, none⟩) hsz).trans hE4
    have H3 : Hid (Own w2 w.heap.size (.slice av n cv) L ∧ Still w w2 ∧ In w2 (some ⟨b, off, none⟩) L) := ⟨H2.out.1.still hs2, H2.out.2.1.trans hs2, H2.out.2.2.still hs2⟩
    clear hE0 hE1 hE3 hE4 H2 hs2 hsz
    simp only [ans]
    generalize ho : look x0.l L = o at *
    have HO : Hid (look x0.l L = o) := ho
    clear ho
    go_wp2_with fail
    refine (same_any w.heap.size (.slice av n cv) (some ⟨b, off, none⟩) n cap L w2 H3.out.1 H3.out.2.2 HN.out (by omega)).mono ?_
    rintro r w3 ⟨rfl, hs3⟩
    have f0 := (hs3.cell (lt_cell g0)).trans g0
    have f1 := (hs3.cell (lt_cell g1)).trans g1
    have f4 := (hs3.cell (lt_cell g4)).trans g4
    have H4 : Hid (Still w w3 ∧ In w3 (some ⟨b, off, none⟩) L) := ⟨H3.out.2.1.trans hs3, H3.out.2.2.still hs3⟩
    clear g0 g1 g3 g4 hs3 H3
    go_wp2
    go_loop [10] (fun i => ∃ A D, L = A ++ D ∧ i = .int .i64 A.length ∧ (∀ y ∈ A, mt x0.l y = false)) (fun i => n - (intOf i).toNat)
    case atStart => exact ⟨[], L, rfl, rfl, fun y hy => by simp at hy⟩
    case round =>
      obtain ⟨A, D, hL, rfl, hA⟩ := hrel
      have HA : Hid (∀ y ∈ A, mt x0.l y = false) := hA
      have HL : Hid (L = A ++ D) := hL
      have hlen : A.length + D.length = n := by rw [← HN.out, hL]; simp
      clear hL hA f0 f1 f4
      cases D with
      | nil =>
        have hNl : ¬ ((A.length : Int) < (n : Int)) := by simp at hlen; omega
        have ho : o = Option.none := by rw [← HO.out, HL.out, List.append_nil]; exact look_none HA.out
        subst ho
        simp only [ansV, Option.getD_none, Option.isSome_none]
        go_wp2
        go_ret
        exact ⟨rfl, H4.out.1⟩
      | cons x D =>
        have hNl : (A.length : Int) < (n : Int) := by simp at hlen; omega
        obtain ⟨b', off', hb', c0, c1, c2⟩ := H4.out.2 A x D HL.out
        cases hb'
        by_cases hs : x.s.toList = []
        · by_cases hm : (x.l.toList == (x0.l).toList) = true
          · have ho : o = some x.v := by rw [← HO.out, HL.out]; exact look_hit HA.out (by simp [mt, hs, hm])
            subst ho
            simp only [ansV, Option.getD_some, Option.isSome_some]
            go_wp2
            go_ret
            exact ⟨rfl, H4.out.1⟩
          · have HM : Hid (mt x0.l x = false) := by
              show _ = _
              simp [mt]
              intro _
              simpa using hm
            have hm1 : (x.l.toList == (x0.l).toList) = false := by simpa using hm
            clear hm
            have HLx : Hid (L = (A ++ [x]) ++ D) := by
              show L = _
              rw [HL.out]; simp
            go_wp2
            go_round
            case rel => exact ⟨A ++ [x], D, HLx.out, by simp, fun y hy => by
              rcases List.mem_append.1 hy with h | h
              · exact HA.out y h
              · simp at h; rw [h]; exact HM.out⟩
            case measure => simp [intOf]; omega
        · have HM : Hid (mt x0.l x = false) := by
            show _ = _
            simp [mt, hs]
          have hs1 : decide (x.s.toList = []) = false := by simp [hs]
          have HLx : Hid (L = (A ++ [x]) ++ D) := by
            show L = _
            rw [HL.out]; simp
          go_wp2
          go_round
          case rel => exact ⟨A ++ [x], D, HLx.out, by simp, fun y hy => by
              rcases List.mem_append.1 hy with h | h
              · exact HA.out y h
              · simp at h; rw [h]; exact HM.out⟩
          case measure => simp [intOf]; omega
  · go_enter Yba.func3, Yba.ntmps3
    by_cases hc1 : 0 < n
    · have hc1' : (0 : Int) < (n : Int) := by omega
      have hc2 : (p % 2 == 0) = false := by simp; omega
      go_wp2_with fail
      refine (build_any a1 n cap L w hn hn1 hnil hin).mono ?_
      rintro r w1 ⟨v, rfl, hown, hst⟩
      obtain ⟨av, cv, hav, _⟩ := hown.slice
      rw [hn] at hav
      subst hav
      have H1 : Hid (Own w1 w.heap.size (.slice av n cv) L ∧ Still w w1 ∧ In w1 a1 L) := ⟨hown, hst, hin.still hst⟩
      have HN : Hid (L.length = n) := hn
      clear hown hst hin hnil hn
      have hE := heap_alloc_new w1 (.cells #[.string ⟨#[115]⟩, .string ⟨#[112, 117, 98, 108, 105, 115, 104]⟩, .string ⟨#[112, 117, 98, 108, 105, 115, 104]⟩, .slice av n cv, .int .i64 3] 29)
      have hE3 : (w1.alloc (.cells #[.string ⟨#[115]⟩, .string ⟨#[112, 117, 98, 108, 105, 115, 104]⟩, .string ⟨#[112, 117, 98, 108, 105, 115, 104]⟩, .slice av n cv, .int .i64 3] 29)).cell? ⟨w1.heap.size, 3, none⟩ = some (.slice av n cv) := by rw [cell_of_row _ _ _ _ _ _ hE]; rfl
      have hE0 : (w1.alloc (.cells #[.string ⟨#[115]⟩, .string ⟨#[112, 117, 98, 108, 105, 115, 104]⟩, .string ⟨#[112, 117, 98, 108, 105, 115, 104]⟩, .slice av n cv, .int .i64 3] 29)).cell? ⟨w1.heap.size, 0, none⟩ = some (.string ⟨#[115]⟩) := by rw [cell_of_row _ _ _ _ _ _ hE]; rfl
      have hE1 : (w1.alloc (.cells #[.string ⟨#[115]⟩, .string ⟨#[112, 117, 98, 108, 105, 115, 104]⟩, .string ⟨#[112, 117, 98, 108, 105, 115, 104]⟩, .slice av n cv, .int .i64 3] 29)).cell? ⟨w1.heap.size, 1, none⟩ = some (.string ⟨#[112, 117, 98, 108, 105, 115, 104]⟩) := by rw [cell_of_row _ _ _ _ _ _ hE]; rfl
      have hE4 : (w1.alloc (.cells #[.string ⟨#[115]⟩, .string ⟨#[112, 117, 98, 108, 105, 115, 104]⟩, .string ⟨#[112, 117, 98, 108, 105, 115, 104]⟩, .slice av n cv, .int .i64 3] 29)).cell? ⟨w1.heap.size, 4, none⟩ = some (.int .i64 3) := by rw [cell_of_row _ _ _ _ _ _ hE]; rfl
      have H2 : Hid (Own (w1.alloc (.cells #[.string ⟨#[115]⟩, .string ⟨#[112, 117, 98, 108, 105, 115, 104]⟩, .string ⟨#[112, 117, 98, 108, 105, 115, 104]⟩, .slice av n cv, .int .i64 3] 29)) w.heap.size (.slice av n cv) L ∧ Still w (w1.alloc (.cells #[.string ⟨#[115]⟩, .string ⟨#[112, 117, 98, 108, 105, 115, 104]⟩, .string ⟨#[112, 117, 98, 108, 105, 115, 104]⟩, .slice av n cv, .int .i64 3] 29)) ∧ In (w1.alloc (.cells #[.string ⟨#[115]⟩, .string ⟨#[112, 117, 98, 108, 105, 115, 104]⟩, .string ⟨#[112, 117, 98, 108, 105, 115, 104]⟩, .slice av n cv, .int .i64 3] 29)) a1 L) :=
        ⟨H1.out.1.still (still_alloc w1 _), H1.out.2.1.alloc _, H1.out.2.2.still (still_alloc w1 _)⟩
      clear hE H1
      go_wp2_with fail
      refine (look_any w1.heap.size w.heap.size name (.slice av n cv) L _ hE3 H2.out.1 (by rw [HN.out]; omega)).mono ?_
      rintro r w2 ⟨rfl, hs2⟩
      have hsz : w1.heap.size < (w1.alloc (.cells #[.string ⟨#[115]⟩, .string ⟨#[112, 117, 98, 108, 105, 115, 104]⟩, .string ⟨#[112, 117, 98, 108, 105, 115, 104]⟩, .slice av n cv, .int .i64 3] 29)).heap.size := by simp
      have g3 := (hs2.cell (p := ⟨w1.heap.size, 3, none⟩) hsz).trans hE3
      have g0 := (hs2.cell (p := ⟨w1.heap.size, 0, none⟩) hsz).trans hE0
      have g1 := (hs2.cell (p := ⟨w1.heap.size, 1, none⟩) hsz).trans hE1
      have g4 := (hs2.cell (p := ⟨w1.heap.size, 4, none⟩) hsz).trans hE4
      have H3 : Hid (Own w2 w.heap.size (.slice av n cv) L ∧ Still w w2 ∧ In w2 a1 L) := ⟨H2.out.1.still hs2, H2.out.2.1.trans hs2, H2.out.2.2.still hs2⟩
      clear hE0 hE1 hE3 hE4 H2 hs2 hsz
      simp only [ans]
      generalize ho : look name L = o at *
      have HO : Hid (look name L = o) := ho
      clear ho
      go_wp2_with fail
      refine (same_any w.heap.size (.slice av n cv) a1 n cap L w2 H3.out.1 H3.out.2.2 HN.out (by omega)).mono ?_
      rintro r w3 ⟨rfl, hs3⟩
      have f0 := (hs3.cell (lt_cell g0)).trans g0
      have f1 := (hs3.cell (lt_cell g1)).trans g1
      have f4 := (hs3.cell (lt_cell g4)).trans g4
      have H4 : Hid (Still w w3 ∧ In w3 a1 L) := ⟨H3.out.2.1.trans hs3, H3.out.2.2.still hs3⟩
      clear g0 g1 g3 g4 hs3 H3
      go_wp2
      go_loop [10] (fun i => ∃ A D, L = A ++ D ∧ i = .int .i64 A.length ∧ (∀ y ∈ A, mt name y = false)) (fun i => n - (intOf i).toNat)
      case atStart => exact ⟨[], L, rfl, rfl, fun y hy => by simp at hy⟩
      case round =>
        obtain ⟨A, D, hL, rfl, hA⟩ := hrel
        have HA : Hid (∀ y ∈ A, mt name y = false) := hA
        have HL : Hid (L = A ++ D) := hL
        have hlen : A.length + D.length = n := by rw [← HN.out, hL]; simp
        clear hL hA f0 f1 f4
        cases D with
        | nil =>
          have hNl : ¬ ((A.length : Int) < (n : Int)) := by simp at hlen; omega
          have ho : o = Option.none := by rw [← HO.out, HL.out, List.append_nil]; exact look_none HA.out
          subst ho
          simp only [ansV, Option.getD_none, Option.isSome_none]
          go_wp2
          go_ret
          exact ⟨rfl, H4.out.1⟩
        | cons x D =>
          have hNl : (A.length : Int) < (n : Int) := by simp at hlen; omega
          obtain ⟨b', off', hb', c0, c1, c2⟩ := H4.out.2 A x D HL.out
          subst hb'
          by_cases hs : x.s.toList = []
          · by_cases hm : (x.l.toList == (name).toList) = true
            · have ho : o = some x.v := by rw [← HO.out, HL.out]; exact look_hit HA.out (by simp [mt, hs, hm])
              subst ho
              simp only [ansV, Option.getD_some, Option.isSome_some]
              go_wp2
              go_ret
              exact ⟨rfl, H4.out.1⟩
            · have HM : Hid (mt name x = false) := by
                show _ = _
                simp [mt]
                intro _
                simpa using hm
              have hm1 : (x.l.toList == (name).toList) = false := by simpa using hm
              clear hm
              have HLx : Hid (L = (A ++ [x]) ++ D) := by
                show L = _
                rw [HL.out]; simp
              go_wp2
              go_round
              case rel => exact ⟨A ++ [x], D, HLx.out, by simp, fun y hy => by
                rcases List.mem_append.1 hy with h | h
                · exact HA.out y h
                · simp at h; rw [h]; exact HM.out⟩
              case measure => simp [intOf]; omega
          · have HM : Hid (mt name x = false) := by
              show _ = _
              simp [mt, hs]
            have hs1 : decide (x.s.toList = []) = false := by simp [hs]
            have HLx : Hid (L = (A ++ [x]) ++ D) := by
              show L = _
              rw [HL.out]; simp
            go_wp2
            go_round
            case rel => exact ⟨A ++ [x], D, HLx.out, by simp, fun y hy => by
                rcases List.mem_append.1 hy with h | h
                · exact HA.out y h
                · simp at h; rw [h]; exact HM.out⟩
            case measure => simp [intOf]; omega
    · have hc1' : decide ((0 : Int) < (n : Int)) = false := by simp; omega
      go_wp2_with fail
      refine (build_any a1 n cap L w hn hn1 hnil hin).mono ?_
      rintro r w1 ⟨v, rfl, hown, hst⟩
      obtain ⟨av, cv, hav, _⟩ := hown.slice
      rw [hn] at hav
      subst hav
      have H1 : Hid (Own w1 w.heap.size (.slice av n cv) L ∧ Still w w1 ∧ In w1 a1 L) := ⟨hown, hst, hin.still hst⟩
      have HN : Hid (L.length = n) := hn
      clear hown hst hin hnil hn
      have hE := heap_alloc_new w1 (.cells #[.string ⟨#[115]⟩, .string ⟨#[112, 117, 98, 108, 105, 115, 104]⟩, .string ⟨#[112, 117, 98, 108, 105, 115, 104]⟩, .slice av n cv, .int .i64 3] 29)
      have hE3 : (w1.alloc (.cells #[.string ⟨#[115]⟩, .string ⟨#[112, 117, 98, 108, 105, 115, 104]⟩, .string ⟨#[112, 117, 98, 108, 105, 115, 104]⟩, .slice av n cv, .int .i64 3] 29)).cell? ⟨w1.heap.size, 3, none⟩ = some (.slice av n cv) := by rw [cell_of_row _ _ _ _ _ _ hE]; rfl
      have hE0 : (w1.alloc (.cells #[.string ⟨#[115]⟩, .string ⟨#[112, 117, 98, 108, 105, 115, 104]⟩, .string ⟨#[112, 117, 98, 108, 105, 115, 104]⟩, .slice av n cv, .int .i64 3] 29)).cell? ⟨w1.heap.size, 0, none⟩ = some (.string ⟨#[115]⟩) := by rw [cell_of_row _ _ _ _ _ _ hE]; rfl
      have hE1 : (w1.alloc (.cells #[.string ⟨#[115]⟩, .string ⟨#[112, 117, 98, 108, 105, 115, 104]⟩, .string ⟨#[112, 117, 98, 108, 105, 115, 104]⟩, .slice av n cv, .int .i64 3] 29)).cell? ⟨w1.heap.size, 1, none⟩ = some (.string ⟨#[112, 117, 98, 108, 105, 115, 104]⟩) := by rw [cell_of_row _ _ _ _ _ _ hE]; rfl
      have hE4 : (w1.alloc (.cells #[.string ⟨#[115]⟩, .string ⟨#[112, 117, 98, 108, 105, 115, 104]⟩, .string ⟨#[112, 117, 98, 108, 105, 115, 104]⟩, .slice av n cv, .int .i64 3] 29)).cell? ⟨w1.heap.size, 4, none⟩ = some (.int .i64 3) := by rw [cell_of_row _ _ _ _ _ _ hE]; rfl
      have H2 : Hid (Own (w1.alloc (.cells #[.string ⟨#[115]⟩, .string ⟨#[112, 117, 98, 108, 105, 115, 104]⟩, .string ⟨#[112, 117, 98, 108, 105, 115, 104]⟩, .slice av n cv, .int .i64 3] 29)) w.heap.size (.slice av n cv) L ∧ Still w (w1.alloc (.cells #[.string ⟨#[115]⟩, .string ⟨#[112, 117, 98, 108, 105, 115, 104]⟩, .string ⟨#[112, 117, 98, 108, 105, 115, 104]⟩, .slice av n cv, .int .i64 3] 29)) ∧ In (w1.alloc (.cells #[.string ⟨#[115]⟩, .string ⟨#[112, 117, 98, 108, 105, 115, 104]⟩, .string ⟨#[112, 117, 98, 108, 105, 115, 104]⟩, .slice av n cv, .int .i64 3] 29)) a1 L) :=
        ⟨H1.out.1.still (still_alloc w1 _), H1.out.2.1.alloc _, H1.out.2.2.still (still_alloc w1 _)⟩
      clear hE H1
      go_wp2_with fail
      refine (look_any w1.heap.size w.heap.size name (.slice av n cv) L _ hE3 H2.out.1 (by rw [HN.out]; omega)).mono ?_
      rintro r w2 ⟨rfl, hs2⟩
      have hsz : w1.heap.size < (w1.alloc (.cells #[.string ⟨#[115]⟩, .string ⟨#[112, 117, 98, 108, 105, 115, 104]⟩, .string ⟨#[112, 117, 98, 108, 105, 115, 104]⟩, .slice av n cv, .int .i64 3] 29)).heap.size := by simp
      have g3 := (hs2.cell (p := ⟨w1.heap.size, 3, none⟩) hsz).trans hE3
      have g0 := (hs2.cell (p := ⟨w1.heap.size, 0, none⟩) hsz).trans hE0
      have g1 := (hs2.cell (p := ⟨w1.heap.size, 1, none⟩) hsz).trans hE1
      have g4 := (hs2.cell (p := ⟨w1.heap.size, 4, none⟩) hsz).trans hE4
      have H3 : Hid (Own w2 w.heap.size (.slice av n cv) L ∧ Still w w2 ∧ In w2 a1 L) := ⟨H2.out.1.still hs2, H2.out.2.1.trans hs2, H2.out.2.2.still hs2⟩
      clear hE0 hE1 hE3 hE4 H2 hs2 hsz
      simp only [ans]
      generalize ho : look name L = o at *
      have HO : Hid (look name L = o) := ho
      clear ho
      go_wp2_with fail
      refine (same_any w.heap.size (.slice av n cv) a1 n cap L w2 H3.out.1 H3.out.2.2 HN.out (by omega)).mono ?_
      rintro r w3 ⟨rfl, hs3⟩
      have f0 := (hs3.cell (lt_cell g0)).trans g0
      have f1 := (hs3.cell (lt_cell g1)).trans g1
      have f4 := (hs3.cell (lt_cell g4)).trans g4
      have H4 : Hid (Still w w3 ∧ In w3 a1 L) := ⟨H3.out.2.1.trans hs3, H3.out.2.2.still hs3⟩
      clear g0 g1 g3 g4 hs3 H3
      go_wp2
      go_loop [10] (fun i => ∃ A D, L = A ++ D ∧ i = .int .i64 A.length ∧ (∀ y ∈ A, mt name y = false)) (fun i => n - (intOf i).toNat)
      case atStart => exact ⟨[], L, rfl, rfl, fun y hy => by simp at hy⟩
      case round =>
        obtain ⟨A, D, hL, rfl, hA⟩ := hrel
        have HA : Hid (∀ y ∈ A, mt name y = false) := hA
        have HL : Hid (L = A ++ D) := hL
        have hlen : A.length + D.length = n := by rw [← HN.out, hL]; simp
        clear hL hA f0 f1 f4
        cases D with
        | nil =>
          have hNl : ¬ ((A.length : Int) < (n : Int)) := by simp at hlen; omega
          have ho : o = Option.none := by rw [← HO.out, HL.out, List.append_nil]; exact look_none HA.out
          subst ho
          simp only [ansV, Option.getD_none, Option.isSome_none]
          go_wp2
          go_ret
          exact ⟨rfl, H4.out.1⟩
        | cons x D =>
          exfalso
          simp at hlen
          omega
end Go.Proofs.Ybulkbgdk
