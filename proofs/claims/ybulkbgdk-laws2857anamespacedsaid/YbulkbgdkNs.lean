/-
  The law LawS2857ANamespaced: the walk.
-/
import Derived.Test.YbulkbgdkFirst
import Derived.Test.YbulkbgdkMore
namespace Go.Proofs.Ybulkbgdk
open Go.RowKit
set_option linter.unusedVariables false

theorem ns_long (a1 : Option Addr) (n cap : Nat) (name space other : ByteArray) (p : Int) (w : World) (hn : 1024 < n) :
    Calls Yba.prog 4 #[.slice a1 n cap, .string name, .string space, .string other, .int .u8 p] w fun e w' => e = .returned (.bool true) ∧ Below w.heap.size w w' := by
  have hn' : (1024 : Int) < (n : Int) := by omega
  go_enter Yba.func4, Yba.ntmps4
  go_wp2
  go_ret
  exact ⟨rfl, Below.refl _ _⟩

set_option maxRecDepth 100000 in
set_option maxHeartbeats 8000000 in
theorem ns_row (a1 : Option Addr) (n cap : Nat) (name space other : ByteArray) (p : Int) (L : List At) (w : World) (hn : L.length = n) (hn1 : n ≤ 1024) (hp0 : 0 ≤ p) (hp1 : p ≤ 255) (hnil : a1 = none → n = 0 ∧ cap = 0) (hin : In w a1 L) :
    Calls Yba.prog 4 #[.slice a1 n cap, .string name, .string space, .string other, .int .u8 p] w fun e w' => e = .returned (.bool true) ∧ Below w.heap.size w w' := by
  have hn' : (n : Int) ≤ 1024 := by omega
  obtain ⟨i0, hi, hz0, hz1, hz2⟩ := info_parts Yba.info36
  by_cases hc : 0 < n ∧ p % 2 = 0
  · obtain ⟨hc1, hc2⟩ := hc
    have hc1' : (0 : Int) < (n : Int) := by omega
    have hn0 : ¬ ((n : Int) = 0) := by omega
    have hr0 : 0 ≤ p / 2 % (n : Int) := Int.emod_nonneg _ hn0
    have hr1 : p / 2 % (n : Int) < (n : Int) := Int.emod_lt_of_pos _ hc1'
    obtain ⟨q, hq⟩ : ∃ q : Nat, p / 2 % (n : Int) = (q : Int) := ⟨(p / 2 % (n : Int)).toNat, by omega⟩
    obtain ⟨A0, x0, D0, hL0, hA0⟩ := split_at L q (by omega)
    obtain ⟨b, off, rfl, _, q1, _⟩ := hin A0 x0 D0 hL0
    rw [hA0] at q1
    clear hL0 hA0
    go_enter Yba.func4, Yba.ntmps4
    by_cases hsp : space.toList = []
    · have hsp1 : decide ((⟨#[120, 109, 108, 110, 115]⟩ : ByteArray).toList = []) = false := by kernel_rfl
      go_wp2_with fail
      refine (build_any (some ⟨b, off, none⟩ : Option Addr) n cap L w hn hn1 hnil hin).mono ?_
      rintro r w1 ⟨v, rfl, hown, hst⟩
      obtain ⟨av, cv, hav, _⟩ := hown.slice
      rw [hn] at hav
      subst hav
      have H1 : Hid (Own w1 w.heap.size (.slice av n cv) L ∧ Still w w1) := ⟨hown, hst⟩
      have HN : Hid (L.length = n) := hn
      have HI : Hid (In w (some ⟨b, off, none⟩ : Option Addr) L) := hin
      have HNIL : Hid ((some ⟨b, off, none⟩ : Option Addr) = none → n = 0 ∧ cap = 0) := hnil
      clear hown hst hin hnil hn
      have hE := heap_alloc_new w1 (.cells #[.string ⟨#[]⟩, .string ⟨#[]⟩, .string ⟨#[]⟩, .slice av n cv, .int .i64 0] 29)
      have hE3 : (w1.alloc (.cells #[.string ⟨#[]⟩, .string ⟨#[]⟩, .string ⟨#[]⟩, .slice av n cv, .int .i64 0] 29)).cell? ⟨w1.heap.size, 3, none⟩ = some (.slice av n cv) := by rw [cell_of_row _ _ _ _ _ _ hE]; rfl
      have H2 : Hid (Own (w1.alloc (.cells #[.string ⟨#[]⟩, .string ⟨#[]⟩, .string ⟨#[]⟩, .slice av n cv, .int .i64 0] 29)) w.heap.size (.slice av n cv) L ∧ Still w (w1.alloc (.cells #[.string ⟨#[]⟩, .string ⟨#[]⟩, .string ⟨#[]⟩, .slice av n cv, .int .i64 0] 29))) := ⟨H1.out.1.still (still_alloc w1 _), H1.out.2.alloc _⟩
      have hsz : w1.heap.size < (w1.alloc (.cells #[.string ⟨#[]⟩, .string ⟨#[]⟩, .string ⟨#[]⟩, .slice av n cv, .int .i64 0] 29)).heap.size := by simp
      clear hE H1
      go_wp2_with fail
      refine (look_any w1.heap.size w.heap.size x0.l (.slice av n cv) L _ hE3 H2.out.1 (by rw [HN.out]; omega)).mono ?_
      rintro r w2 ⟨rfl, hs2⟩
      have g3 := (hs2.cell (p := ⟨w1.heap.size, 3, none⟩) hsz).trans hE3
      have H3 : Hid (Own w2 w.heap.size (.slice av n cv) L ∧ Still w w2) := ⟨H2.out.1.still hs2, H2.out.2.trans hs2⟩
      clear hE3 H2 hs2 hsz
      simp only [ans]
      go_wp2_with fail
      refine (attr_any w1.heap.size w.heap.size x0.l (.slice av n cv) L _ g3 H3.out.1 (by rw [HN.out]; omega)).mono ?_
      rintro r w3 ⟨rfl, hs3⟩
      have H4 : Hid (Still w w3) := H3.out.2.trans hs3
      clear g3 H3 hs3
      generalize ho : look x0.l L = o at *
      have HO : Hid (look x0.l L = o) := ho
      clear ho
      simp only [ansV]
      go_wp2_with (at_make; refine wpList_make_own _ rfl _ _ 26 rfl w3.heap.size 36 i0 _ 3 Yba.underlying26 hi hz0 hz1 _ _ _ (n + 1) rfl rfl (by omega) ?b2 ?b3 (Nat.le_refl _) ?_)
      case b2 => rw [hz2]; omega
      case b3 => unfold maxLen; omega
      intro w4 hown4 hgrow4
      have H5 : Hid (Own w4 w3.heap.size (.slice (some ⟨w3.heap.size, 0, none⟩) 0 (n + 1)) [] ∧ Still w3 w4) := ⟨hown4, (Below.refl _ _).grown hgrow4 (Nat.le_refl _) (fun k hk => by cases hk)⟩
      clear hown4 hgrow4
      go_wp2_with (at_builtin; refine wpList_append_at w4 rfl _ _ rfl w3.heap.size [] ⟨⟨#[120, 109, 108, 110, 115]⟩, x0.l, other⟩ (.slice (some ⟨w3.heap.size, 0, none⟩) 0 (n + 1)) rfl rfl H5.out.1 H5.out.2.size (by simp) ?_; intro v5 w5 hown5 hst5)
      have H6 : Hid (Own w5 w3.heap.size v5 [⟨⟨#[120, 109, 108, 110, 115]⟩, x0.l, other⟩] ∧ Still w3 w5) := ⟨hown5, Below.trans H5.out.2 hst5⟩
      clear hown5 hst5 H5
      have HI5 : Hid (In w5 (some ⟨b, off, none⟩ : Option Addr) L) := HI.out.still (H4.out.trans H6.out.2)
      go_wp2_with fail
      refine (build_any (some ⟨b, off, none⟩ : Option Addr) n cap L w5 HN.out hn1 HNIL.out HI5.out).mono ?_
      rintro r w6 ⟨v6, rfl, hown6, hst6⟩
      have H7 : Hid (Own w6 w3.heap.size v5 [⟨⟨#[120, 109, 108, 110, 115]⟩, x0.l, other⟩] ∧ Own w6 w3.heap.size v6 L ∧ Still w3 w6) := ⟨H6.out.1.still hst6, hown6.bound H6.out.2.size, H6.out.2.trans hst6⟩
      clear hown6 hst6 H6 HI5
      go_wp2_with (at_builtin; refine wpList_append_more w6 rfl _ _ rfl w3.heap.size [⟨⟨#[120, 109, 108, 110, 115]⟩, x0.l, other⟩] L v5 v6 rfl rfl H7.out.1 H7.out.2.1 H7.out.2.2.size (by rw [HN.out]; simp; omega) ?_; intro v7 w7 hown7 hst7; obtain ⟨am, cm, hv7, _⟩ := hown7.slice; rw [show ([⟨⟨#[120, 109, 108, 110, 115]⟩, x0.l, other⟩] ++ L : List At).length = n + 1 by rw [← HN.out]; simp] at hv7; subst hv7)
      have H8 : Hid (Own w7 w3.heap.size (.slice am (n + 1) cm) (⟨⟨#[120, 109, 108, 110, 115]⟩, x0.l, other⟩ :: L) ∧ Still w3 w7) := ⟨hown7, Below.trans H7.out.2.2 hst7⟩
      clear hown7 hst7 H7
      have hF := heap_alloc_new w7 (.cells #[.string ⟨#[]⟩, .string ⟨#[]⟩, .string ⟨#[]⟩, .slice am (n + 1) cm, .int .i64 0] 29)
      have hF3 : (w7.alloc (.cells #[.string ⟨#[]⟩, .string ⟨#[]⟩, .string ⟨#[]⟩, .slice am (n + 1) cm, .int .i64 0] 29)).cell? ⟨w7.heap.size, 3, none⟩ = some (.slice am (n + 1) cm) := by rw [cell_of_row _ _ _ _ _ _ hF]; rfl
      have H9 : Hid (Own (w7.alloc (.cells #[.string ⟨#[]⟩, .string ⟨#[]⟩, .string ⟨#[]⟩, .slice am (n + 1) cm, .int .i64 0] 29)) w3.heap.size (.slice am (n + 1) cm) (⟨⟨#[120, 109, 108, 110, 115]⟩, x0.l, other⟩ :: L) ∧ Still w3 (w7.alloc (.cells #[.string ⟨#[]⟩, .string ⟨#[]⟩, .string ⟨#[]⟩, .slice am (n + 1) cm, .int .i64 0] 29))) := ⟨H8.out.1.still (still_alloc w7 _), H8.out.2.alloc _⟩
      clear hF H8
      go_wp2_with fail
      refine (look_any w7.heap.size w3.heap.size x0.l (.slice am (n + 1) cm) (⟨⟨#[120, 109, 108, 110, 115]⟩, x0.l, other⟩ :: L) _ hF3 H9.out.1 (by rw [List.length_cons, HN.out]; omega)).mono ?_
      rintro r w8 ⟨rfl, hs8⟩
      have H10 : Hid (Still w w8) := H4.out.trans (H9.out.2.trans hs8)
      have hlk : look x0.l (⟨⟨#[120, 109, 108, 110, 115]⟩, x0.l, other⟩ :: L) = o := by
        rw [← HO.out]
        have hm : mt x0.l ⟨⟨#[120, 109, 108, 110, 115]⟩, x0.l, other⟩ = false := by
          simp only [mt, hsp1, Bool.false_and]
        simp [look, hm]
      rw [hlk]
      clear hF3 H9 hs8 hlk
      simp only [ans, ansV]
      go_wp2
      go_ret
      exact ⟨rfl, H10.out⟩
    · have hsp1 : decide (space.toList = []) = false := by simp [hsp]
      have hsp2 : space.toList.isEmpty = false := by simp [hsp]
      go_wp2_with fail
      refine (build_any (some ⟨b, off, none⟩ : Option Addr) n cap L w hn hn1 hnil hin).mono ?_
      rintro r w1 ⟨v, rfl, hown, hst⟩
      obtain ⟨av, cv, hav, _⟩ := hown.slice
      rw [hn] at hav
      subst hav
      have H1 : Hid (Own w1 w.heap.size (.slice av n cv) L ∧ Still w w1) := ⟨hown, hst⟩
      have HN : Hid (L.length = n) := hn
      have HI : Hid (In w (some ⟨b, off, none⟩ : Option Addr) L) := hin
      have HNIL : Hid ((some ⟨b, off, none⟩ : Option Addr) = none → n = 0 ∧ cap = 0) := hnil
      clear hown hst hin hnil hn
      have hE := heap_alloc_new w1 (.cells #[.string ⟨#[]⟩, .string ⟨#[]⟩, .string ⟨#[]⟩, .slice av n cv, .int .i64 0] 29)
      have hE3 : (w1.alloc (.cells #[.string ⟨#[]⟩, .string ⟨#[]⟩, .string ⟨#[]⟩, .slice av n cv, .int .i64 0] 29)).cell? ⟨w1.heap.size, 3, none⟩ = some (.slice av n cv) := by rw [cell_of_row _ _ _ _ _ _ hE]; rfl
      have H2 : Hid (Own (w1.alloc (.cells #[.string ⟨#[]⟩, .string ⟨#[]⟩, .string ⟨#[]⟩, .slice av n cv, .int .i64 0] 29)) w.heap.size (.slice av n cv) L ∧ Still w (w1.alloc (.cells #[.string ⟨#[]⟩, .string ⟨#[]⟩, .string ⟨#[]⟩, .slice av n cv, .int .i64 0] 29))) := ⟨H1.out.1.still (still_alloc w1 _), H1.out.2.alloc _⟩
      have hsz : w1.heap.size < (w1.alloc (.cells #[.string ⟨#[]⟩, .string ⟨#[]⟩, .string ⟨#[]⟩, .slice av n cv, .int .i64 0] 29)).heap.size := by simp
      clear hE H1
      go_wp2_with fail
      refine (look_any w1.heap.size w.heap.size x0.l (.slice av n cv) L _ hE3 H2.out.1 (by rw [HN.out]; omega)).mono ?_
      rintro r w2 ⟨rfl, hs2⟩
      have g3 := (hs2.cell (p := ⟨w1.heap.size, 3, none⟩) hsz).trans hE3
      have H3 : Hid (Own w2 w.heap.size (.slice av n cv) L ∧ Still w w2) := ⟨H2.out.1.still hs2, H2.out.2.trans hs2⟩
      clear hE3 H2 hs2 hsz
      simp only [ans]
      go_wp2_with fail
      refine (attr_any w1.heap.size w.heap.size x0.l (.slice av n cv) L _ g3 H3.out.1 (by rw [HN.out]; omega)).mono ?_
      rintro r w3 ⟨rfl, hs3⟩
      have H4 : Hid (Still w w3) := H3.out.2.trans hs3
      clear g3 H3 hs3
      generalize ho : look x0.l L = o at *
      have HO : Hid (look x0.l L = o) := ho
      clear ho
      simp only [ansV]
      go_wp2_with (at_make; refine wpList_make_own _ rfl _ _ 26 rfl w3.heap.size 36 i0 _ 3 Yba.underlying26 hi hz0 hz1 _ _ _ (n + 1) rfl rfl (by omega) ?b2 ?b3 (Nat.le_refl _) ?_)
      case b2 => rw [hz2]; omega
      case b3 => unfold maxLen; omega
      intro w4 hown4 hgrow4
      have H5 : Hid (Own w4 w3.heap.size (.slice (some ⟨w3.heap.size, 0, none⟩) 0 (n + 1)) [] ∧ Still w3 w4) := ⟨hown4, (Below.refl _ _).grown hgrow4 (Nat.le_refl _) (fun k hk => by cases hk)⟩
      clear hown4 hgrow4
      go_wp2_with (at_builtin; refine wpList_append_at w4 rfl _ _ rfl w3.heap.size [] ⟨space, x0.l, other⟩ (.slice (some ⟨w3.heap.size, 0, none⟩) 0 (n + 1)) rfl rfl H5.out.1 H5.out.2.size (by simp) ?_; intro v5 w5 hown5 hst5)
      have H6 : Hid (Own w5 w3.heap.size v5 [⟨space, x0.l, other⟩] ∧ Still w3 w5) := ⟨hown5, Below.trans H5.out.2 hst5⟩
      clear hown5 hst5 H5
      have HI5 : Hid (In w5 (some ⟨b, off, none⟩ : Option Addr) L) := HI.out.still (H4.out.trans H6.out.2)
      go_wp2_with fail
      refine (build_any (some ⟨b, off, none⟩ : Option Addr) n cap L w5 HN.out hn1 HNIL.out HI5.out).mono ?_
      rintro r w6 ⟨v6, rfl, hown6, hst6⟩
      have H7 : Hid (Own w6 w3.heap.size v5 [⟨space, x0.l, other⟩] ∧ Own w6 w3.heap.size v6 L ∧ Still w3 w6) := ⟨H6.out.1.still hst6, hown6.bound H6.out.2.size, H6.out.2.trans hst6⟩
      clear hown6 hst6 H6 HI5
      go_wp2_with (at_builtin; refine wpList_append_more w6 rfl _ _ rfl w3.heap.size [⟨space, x0.l, other⟩] L v5 v6 rfl rfl H7.out.1 H7.out.2.1 H7.out.2.2.size (by rw [HN.out]; simp; omega) ?_; intro v7 w7 hown7 hst7; obtain ⟨am, cm, hv7, _⟩ := hown7.slice; rw [show ([⟨space, x0.l, other⟩] ++ L : List At).length = n + 1 by rw [← HN.out]; simp] at hv7; subst hv7)
      have H8 : Hid (Own w7 w3.heap.size (.slice am (n + 1) cm) (⟨space, x0.l, other⟩ :: L) ∧ Still w3 w7) := ⟨hown7, Below.trans H7.out.2.2 hst7⟩
      clear hown7 hst7 H7
      have hF := heap_alloc_new w7 (.cells #[.string ⟨#[]⟩, .string ⟨#[]⟩, .string ⟨#[]⟩, .slice am (n + 1) cm, .int .i64 0] 29)
      have hF3 : (w7.alloc (.cells #[.string ⟨#[]⟩, .string ⟨#[]⟩, .string ⟨#[]⟩, .slice am (n + 1) cm, .int .i64 0] 29)).cell? ⟨w7.heap.size, 3, none⟩ = some (.slice am (n + 1) cm) := by rw [cell_of_row _ _ _ _ _ _ hF]; rfl
      have H9 : Hid (Own (w7.alloc (.cells #[.string ⟨#[]⟩, .string ⟨#[]⟩, .string ⟨#[]⟩, .slice am (n + 1) cm, .int .i64 0] 29)) w3.heap.size (.slice am (n + 1) cm) (⟨space, x0.l, other⟩ :: L) ∧ Still w3 (w7.alloc (.cells #[.string ⟨#[]⟩, .string ⟨#[]⟩, .string ⟨#[]⟩, .slice am (n + 1) cm, .int .i64 0] 29))) := ⟨H8.out.1.still (still_alloc w7 _), H8.out.2.alloc _⟩
      clear hF H8
      go_wp2_with fail
      refine (look_any w7.heap.size w3.heap.size x0.l (.slice am (n + 1) cm) (⟨space, x0.l, other⟩ :: L) _ hF3 H9.out.1 (by rw [List.length_cons, HN.out]; omega)).mono ?_
      rintro r w8 ⟨rfl, hs8⟩
      have H10 : Hid (Still w w8) := H4.out.trans (H9.out.2.trans hs8)
      have hlk : look x0.l (⟨space, x0.l, other⟩ :: L) = o := by
        rw [← HO.out]
        have hm : mt x0.l ⟨space, x0.l, other⟩ = false := by
          simp only [mt, hsp1, Bool.false_and]
        simp [look, hm]
      rw [hlk]
      clear hF3 H9 hs8 hlk
      simp only [ans, ansV]
      go_wp2
      go_ret
      exact ⟨rfl, H10.out⟩
  · go_enter Yba.func4, Yba.ntmps4
    by_cases hc1 : 0 < n
    · have hc1' : (0 : Int) < (n : Int) := by omega
      have hc2 : (p % 2 == 0) = false := by simp; omega
      by_cases hsp : space.toList = []
      · have hsp1 : decide ((⟨#[120, 109, 108, 110, 115]⟩ : ByteArray).toList = []) = false := by kernel_rfl
        go_wp2_with fail
        refine (build_any a1 n cap L w hn hn1 hnil hin).mono ?_
        rintro r w1 ⟨v, rfl, hown, hst⟩
        obtain ⟨av, cv, hav, _⟩ := hown.slice
        rw [hn] at hav
        subst hav
        have H1 : Hid (Own w1 w.heap.size (.slice av n cv) L ∧ Still w w1) := ⟨hown, hst⟩
        have HN : Hid (L.length = n) := hn
        have HI : Hid (In w a1 L) := hin
        have HNIL : Hid (a1 = none → n = 0 ∧ cap = 0) := hnil
        clear hown hst hin hnil hn
        have hE := heap_alloc_new w1 (.cells #[.string ⟨#[]⟩, .string ⟨#[]⟩, .string ⟨#[]⟩, .slice av n cv, .int .i64 0] 29)
        have hE3 : (w1.alloc (.cells #[.string ⟨#[]⟩, .string ⟨#[]⟩, .string ⟨#[]⟩, .slice av n cv, .int .i64 0] 29)).cell? ⟨w1.heap.size, 3, none⟩ = some (.slice av n cv) := by rw [cell_of_row _ _ _ _ _ _ hE]; rfl
        have H2 : Hid (Own (w1.alloc (.cells #[.string ⟨#[]⟩, .string ⟨#[]⟩, .string ⟨#[]⟩, .slice av n cv, .int .i64 0] 29)) w.heap.size (.slice av n cv) L ∧ Still w (w1.alloc (.cells #[.string ⟨#[]⟩, .string ⟨#[]⟩, .string ⟨#[]⟩, .slice av n cv, .int .i64 0] 29))) := ⟨H1.out.1.still (still_alloc w1 _), H1.out.2.alloc _⟩
        have hsz : w1.heap.size < (w1.alloc (.cells #[.string ⟨#[]⟩, .string ⟨#[]⟩, .string ⟨#[]⟩, .slice av n cv, .int .i64 0] 29)).heap.size := by simp
        clear hE H1
        go_wp2_with fail
        refine (look_any w1.heap.size w.heap.size name (.slice av n cv) L _ hE3 H2.out.1 (by rw [HN.out]; omega)).mono ?_
        rintro r w2 ⟨rfl, hs2⟩
        have g3 := (hs2.cell (p := ⟨w1.heap.size, 3, none⟩) hsz).trans hE3
        have H3 : Hid (Own w2 w.heap.size (.slice av n cv) L ∧ Still w w2) := ⟨H2.out.1.still hs2, H2.out.2.trans hs2⟩
        clear hE3 H2 hs2 hsz
        simp only [ans]
        go_wp2_with fail
        refine (attr_any w1.heap.size w.heap.size name (.slice av n cv) L _ g3 H3.out.1 (by rw [HN.out]; omega)).mono ?_
        rintro r w3 ⟨rfl, hs3⟩
        have H4 : Hid (Still w w3) := H3.out.2.trans hs3
        clear g3 H3 hs3
        generalize ho : look name L = o at *
        have HO : Hid (look name L = o) := ho
        clear ho
        simp only [ansV]
        go_wp2_with (at_make; refine wpList_make_own _ rfl _ _ 26 rfl w3.heap.size 36 i0 _ 3 Yba.underlying26 hi hz0 hz1 _ _ _ (n + 1) rfl rfl (by omega) ?b2 ?b3 (Nat.le_refl _) ?_)
        case b2 => rw [hz2]; omega
        case b3 => unfold maxLen; omega
        intro w4 hown4 hgrow4
        have H5 : Hid (Own w4 w3.heap.size (.slice (some ⟨w3.heap.size, 0, none⟩) 0 (n + 1)) [] ∧ Still w3 w4) := ⟨hown4, (Below.refl _ _).grown hgrow4 (Nat.le_refl _) (fun k hk => by cases hk)⟩
        clear hown4 hgrow4
        go_wp2_with (at_builtin; refine wpList_append_at w4 rfl _ _ rfl w3.heap.size [] ⟨⟨#[120, 109, 108, 110, 115]⟩, name, other⟩ (.slice (some ⟨w3.heap.size, 0, none⟩) 0 (n + 1)) rfl rfl H5.out.1 H5.out.2.size (by simp) ?_; intro v5 w5 hown5 hst5)
        have H6 : Hid (Own w5 w3.heap.size v5 [⟨⟨#[120, 109, 108, 110, 115]⟩, name, other⟩] ∧ Still w3 w5) := ⟨hown5, Below.trans H5.out.2 hst5⟩
        clear hown5 hst5 H5
        have HI5 : Hid (In w5 a1 L) := HI.out.still (H4.out.trans H6.out.2)
        go_wp2_with fail
        refine (build_any a1 n cap L w5 HN.out hn1 HNIL.out HI5.out).mono ?_
        rintro r w6 ⟨v6, rfl, hown6, hst6⟩
        have H7 : Hid (Own w6 w3.heap.size v5 [⟨⟨#[120, 109, 108, 110, 115]⟩, name, other⟩] ∧ Own w6 w3.heap.size v6 L ∧ Still w3 w6) := ⟨H6.out.1.still hst6, hown6.bound H6.out.2.size, H6.out.2.trans hst6⟩
        clear hown6 hst6 H6 HI5
        go_wp2_with (at_builtin; refine wpList_append_more w6 rfl _ _ rfl w3.heap.size [⟨⟨#[120, 109, 108, 110, 115]⟩, name, other⟩] L v5 v6 rfl rfl H7.out.1 H7.out.2.1 H7.out.2.2.size (by rw [HN.out]; simp; omega) ?_; intro v7 w7 hown7 hst7; obtain ⟨am, cm, hv7, _⟩ := hown7.slice; rw [show ([⟨⟨#[120, 109, 108, 110, 115]⟩, name, other⟩] ++ L : List At).length = n + 1 by rw [← HN.out]; simp] at hv7; subst hv7)
        have H8 : Hid (Own w7 w3.heap.size (.slice am (n + 1) cm) (⟨⟨#[120, 109, 108, 110, 115]⟩, name, other⟩ :: L) ∧ Still w3 w7) := ⟨hown7, Below.trans H7.out.2.2 hst7⟩
        clear hown7 hst7 H7
        have hF := heap_alloc_new w7 (.cells #[.string ⟨#[]⟩, .string ⟨#[]⟩, .string ⟨#[]⟩, .slice am (n + 1) cm, .int .i64 0] 29)
        have hF3 : (w7.alloc (.cells #[.string ⟨#[]⟩, .string ⟨#[]⟩, .string ⟨#[]⟩, .slice am (n + 1) cm, .int .i64 0] 29)).cell? ⟨w7.heap.size, 3, none⟩ = some (.slice am (n + 1) cm) := by rw [cell_of_row _ _ _ _ _ _ hF]; rfl
        have H9 : Hid (Own (w7.alloc (.cells #[.string ⟨#[]⟩, .string ⟨#[]⟩, .string ⟨#[]⟩, .slice am (n + 1) cm, .int .i64 0] 29)) w3.heap.size (.slice am (n + 1) cm) (⟨⟨#[120, 109, 108, 110, 115]⟩, name, other⟩ :: L) ∧ Still w3 (w7.alloc (.cells #[.string ⟨#[]⟩, .string ⟨#[]⟩, .string ⟨#[]⟩, .slice am (n + 1) cm, .int .i64 0] 29))) := ⟨H8.out.1.still (still_alloc w7 _), H8.out.2.alloc _⟩
        clear hF H8
        go_wp2_with fail
        refine (look_any w7.heap.size w3.heap.size name (.slice am (n + 1) cm) (⟨⟨#[120, 109, 108, 110, 115]⟩, name, other⟩ :: L) _ hF3 H9.out.1 (by rw [List.length_cons, HN.out]; omega)).mono ?_
        rintro r w8 ⟨rfl, hs8⟩
        have H10 : Hid (Still w w8) := H4.out.trans (H9.out.2.trans hs8)
        have hlk : look name (⟨⟨#[120, 109, 108, 110, 115]⟩, name, other⟩ :: L) = o := by
          rw [← HO.out]
          have hm : mt name ⟨⟨#[120, 109, 108, 110, 115]⟩, name, other⟩ = false := by
            simp only [mt, hsp1, Bool.false_and]
          simp [look, hm]
        rw [hlk]
        clear hF3 H9 hs8 hlk
        simp only [ans, ansV]
        go_wp2
        go_ret
        exact ⟨rfl, H10.out⟩
      · have hsp1 : decide (space.toList = []) = false := by simp [hsp]
        have hsp2 : space.toList.isEmpty = false := by simp [hsp]
        go_wp2_with fail
        refine (build_any a1 n cap L w hn hn1 hnil hin).mono ?_
        rintro r w1 ⟨v, rfl, hown, hst⟩
        obtain ⟨av, cv, hav, _⟩ := hown.slice
        rw [hn] at hav
        subst hav
        have H1 : Hid (Own w1 w.heap.size (.slice av n cv) L ∧ Still w w1) := ⟨hown, hst⟩
        have HN : Hid (L.length = n) := hn
        have HI : Hid (In w a1 L) := hin
        have HNIL : Hid (a1 = none → n = 0 ∧ cap = 0) := hnil
        clear hown hst hin hnil hn
        have hE := heap_alloc_new w1 (.cells #[.string ⟨#[]⟩, .string ⟨#[]⟩, .string ⟨#[]⟩, .slice av n cv, .int .i64 0] 29)
        have hE3 : (w1.alloc (.cells #[.string ⟨#[]⟩, .string ⟨#[]⟩, .string ⟨#[]⟩, .slice av n cv, .int .i64 0] 29)).cell? ⟨w1.heap.size, 3, none⟩ = some (.slice av n cv) := by rw [cell_of_row _ _ _ _ _ _ hE]; rfl
        have H2 : Hid (Own (w1.alloc (.cells #[.string ⟨#[]⟩, .string ⟨#[]⟩, .string ⟨#[]⟩, .slice av n cv, .int .i64 0] 29)) w.heap.size (.slice av n cv) L ∧ Still w (w1.alloc (.cells #[.string ⟨#[]⟩, .string ⟨#[]⟩, .string ⟨#[]⟩, .slice av n cv, .int .i64 0] 29))) := ⟨H1.out.1.still (still_alloc w1 _), H1.out.2.alloc _⟩
        have hsz : w1.heap.size < (w1.alloc (.cells #[.string ⟨#[]⟩, .string ⟨#[]⟩, .string ⟨#[]⟩, .slice av n cv, .int .i64 0] 29)).heap.size := by simp
        clear hE H1
        go_wp2_with fail
        refine (look_any w1.heap.size w.heap.size name (.slice av n cv) L _ hE3 H2.out.1 (by rw [HN.out]; omega)).mono ?_
        rintro r w2 ⟨rfl, hs2⟩
        have g3 := (hs2.cell (p := ⟨w1.heap.size, 3, none⟩) hsz).trans hE3
        have H3 : Hid (Own w2 w.heap.size (.slice av n cv) L ∧ Still w w2) := ⟨H2.out.1.still hs2, H2.out.2.trans hs2⟩
        clear hE3 H2 hs2 hsz
        simp only [ans]
        go_wp2_with fail
        refine (attr_any w1.heap.size w.heap.size name (.slice av n cv) L _ g3 H3.out.1 (by rw [HN.out]; omega)).mono ?_
        rintro r w3 ⟨rfl, hs3⟩
        have H4 : Hid (Still w w3) := H3.out.2.trans hs3
        clear g3 H3 hs3
        generalize ho : look name L = o at *
        have HO : Hid (look name L = o) := ho
        clear ho
        simp only [ansV]
        go_wp2_with (at_make; refine wpList_make_own _ rfl _ _ 26 rfl w3.heap.size 36 i0 _ 3 Yba.underlying26 hi hz0 hz1 _ _ _ (n + 1) rfl rfl (by omega) ?b2 ?b3 (Nat.le_refl _) ?_)
        case b2 => rw [hz2]; omega
        case b3 => unfold maxLen; omega
        intro w4 hown4 hgrow4
        have H5 : Hid (Own w4 w3.heap.size (.slice (some ⟨w3.heap.size, 0, none⟩) 0 (n + 1)) [] ∧ Still w3 w4) := ⟨hown4, (Below.refl _ _).grown hgrow4 (Nat.le_refl _) (fun k hk => by cases hk)⟩
        clear hown4 hgrow4
        go_wp2_with (at_builtin; refine wpList_append_at w4 rfl _ _ rfl w3.heap.size [] ⟨space, name, other⟩ (.slice (some ⟨w3.heap.size, 0, none⟩) 0 (n + 1)) rfl rfl H5.out.1 H5.out.2.size (by simp) ?_; intro v5 w5 hown5 hst5)
        have H6 : Hid (Own w5 w3.heap.size v5 [⟨space, name, other⟩] ∧ Still w3 w5) := ⟨hown5, Below.trans H5.out.2 hst5⟩
        clear hown5 hst5 H5
        have HI5 : Hid (In w5 a1 L) := HI.out.still (H4.out.trans H6.out.2)
        go_wp2_with fail
        refine (build_any a1 n cap L w5 HN.out hn1 HNIL.out HI5.out).mono ?_
        rintro r w6 ⟨v6, rfl, hown6, hst6⟩
        have H7 : Hid (Own w6 w3.heap.size v5 [⟨space, name, other⟩] ∧ Own w6 w3.heap.size v6 L ∧ Still w3 w6) := ⟨H6.out.1.still hst6, hown6.bound H6.out.2.size, H6.out.2.trans hst6⟩
        clear hown6 hst6 H6 HI5
        go_wp2_with (at_builtin; refine wpList_append_more w6 rfl _ _ rfl w3.heap.size [⟨space, name, other⟩] L v5 v6 rfl rfl H7.out.1 H7.out.2.1 H7.out.2.2.size (by rw [HN.out]; simp; omega) ?_; intro v7 w7 hown7 hst7; obtain ⟨am, cm, hv7, _⟩ := hown7.slice; rw [show ([⟨space, name, other⟩] ++ L : List At).length = n + 1 by rw [← HN.out]; simp] at hv7; subst hv7)
        have H8 : Hid (Own w7 w3.heap.size (.slice am (n + 1) cm) (⟨space, name, other⟩ :: L) ∧ Still w3 w7) := ⟨hown7, Below.trans H7.out.2.2 hst7⟩
        clear hown7 hst7 H7
        have hF := heap_alloc_new w7 (.cells #[.string ⟨#[]⟩, .string ⟨#[]⟩, .string ⟨#[]⟩, .slice am (n + 1) cm, .int .i64 0] 29)
        have hF3 : (w7.alloc (.cells #[.string ⟨#[]⟩, .string ⟨#[]⟩, .string ⟨#[]⟩, .slice am (n + 1) cm, .int .i64 0] 29)).cell? ⟨w7.heap.size, 3, none⟩ = some (.slice am (n + 1) cm) := by rw [cell_of_row _ _ _ _ _ _ hF]; rfl
        have H9 : Hid (Own (w7.alloc (.cells #[.string ⟨#[]⟩, .string ⟨#[]⟩, .string ⟨#[]⟩, .slice am (n + 1) cm, .int .i64 0] 29)) w3.heap.size (.slice am (n + 1) cm) (⟨space, name, other⟩ :: L) ∧ Still w3 (w7.alloc (.cells #[.string ⟨#[]⟩, .string ⟨#[]⟩, .string ⟨#[]⟩, .slice am (n + 1) cm, .int .i64 0] 29))) := ⟨H8.out.1.still (still_alloc w7 _), H8.out.2.alloc _⟩
        clear hF H8
        go_wp2_with fail
        refine (look_any w7.heap.size w3.heap.size name (.slice am (n + 1) cm) (⟨space, name, other⟩ :: L) _ hF3 H9.out.1 (by rw [List.length_cons, HN.out]; omega)).mono ?_
        rintro r w8 ⟨rfl, hs8⟩
        have H10 : Hid (Still w w8) := H4.out.trans (H9.out.2.trans hs8)
        have hlk : look name (⟨space, name, other⟩ :: L) = o := by
          rw [← HO.out]
          have hm : mt name ⟨space, name, other⟩ = false := by
            simp only [mt, hsp1, Bool.false_and]
          simp [look, hm]
        rw [hlk]
        clear hF3 H9 hs8 hlk
        simp only [ans, ansV]
        go_wp2
        go_ret
        exact ⟨rfl, H10.out⟩
    · have hc1' : decide ((0 : Int) < (n : Int)) = false := by simp; omega
      by_cases hsp : space.toList = []
      · have hsp1 : decide ((⟨#[120, 109, 108, 110, 115]⟩ : ByteArray).toList = []) = false := by kernel_rfl
        go_wp2_with fail
        refine (build_any a1 n cap L w hn hn1 hnil hin).mono ?_
        rintro r w1 ⟨v, rfl, hown, hst⟩
        obtain ⟨av, cv, hav, _⟩ := hown.slice
        rw [hn] at hav
        subst hav
        have H1 : Hid (Own w1 w.heap.size (.slice av n cv) L ∧ Still w w1) := ⟨hown, hst⟩
        have HN : Hid (L.length = n) := hn
        have HI : Hid (In w a1 L) := hin
        have HNIL : Hid (a1 = none → n = 0 ∧ cap = 0) := hnil
        clear hown hst hin hnil hn
        have hE := heap_alloc_new w1 (.cells #[.string ⟨#[]⟩, .string ⟨#[]⟩, .string ⟨#[]⟩, .slice av n cv, .int .i64 0] 29)
        have hE3 : (w1.alloc (.cells #[.string ⟨#[]⟩, .string ⟨#[]⟩, .string ⟨#[]⟩, .slice av n cv, .int .i64 0] 29)).cell? ⟨w1.heap.size, 3, none⟩ = some (.slice av n cv) := by rw [cell_of_row _ _ _ _ _ _ hE]; rfl
        have H2 : Hid (Own (w1.alloc (.cells #[.string ⟨#[]⟩, .string ⟨#[]⟩, .string ⟨#[]⟩, .slice av n cv, .int .i64 0] 29)) w.heap.size (.slice av n cv) L ∧ Still w (w1.alloc (.cells #[.string ⟨#[]⟩, .string ⟨#[]⟩, .string ⟨#[]⟩, .slice av n cv, .int .i64 0] 29))) := ⟨H1.out.1.still (still_alloc w1 _), H1.out.2.alloc _⟩
        have hsz : w1.heap.size < (w1.alloc (.cells #[.string ⟨#[]⟩, .string ⟨#[]⟩, .string ⟨#[]⟩, .slice av n cv, .int .i64 0] 29)).heap.size := by simp
        clear hE H1
        go_wp2_with fail
        refine (look_any w1.heap.size w.heap.size name (.slice av n cv) L _ hE3 H2.out.1 (by rw [HN.out]; omega)).mono ?_
        rintro r w2 ⟨rfl, hs2⟩
        have g3 := (hs2.cell (p := ⟨w1.heap.size, 3, none⟩) hsz).trans hE3
        have H3 : Hid (Own w2 w.heap.size (.slice av n cv) L ∧ Still w w2) := ⟨H2.out.1.still hs2, H2.out.2.trans hs2⟩
        clear hE3 H2 hs2 hsz
        simp only [ans]
        go_wp2_with fail
        refine (attr_any w1.heap.size w.heap.size name (.slice av n cv) L _ g3 H3.out.1 (by rw [HN.out]; omega)).mono ?_
        rintro r w3 ⟨rfl, hs3⟩
        have H4 : Hid (Still w w3) := H3.out.2.trans hs3
        clear g3 H3 hs3
        generalize ho : look name L = o at *
        have HO : Hid (look name L = o) := ho
        clear ho
        simp only [ansV]
        go_wp2_with (at_make; refine wpList_make_own _ rfl _ _ 26 rfl w3.heap.size 36 i0 _ 3 Yba.underlying26 hi hz0 hz1 _ _ _ (n + 1) rfl rfl (by omega) ?b2 ?b3 (Nat.le_refl _) ?_)
        case b2 => rw [hz2]; omega
        case b3 => unfold maxLen; omega
        intro w4 hown4 hgrow4
        have H5 : Hid (Own w4 w3.heap.size (.slice (some ⟨w3.heap.size, 0, none⟩) 0 (n + 1)) [] ∧ Still w3 w4) := ⟨hown4, (Below.refl _ _).grown hgrow4 (Nat.le_refl _) (fun k hk => by cases hk)⟩
        clear hown4 hgrow4
        go_wp2_with (at_builtin; refine wpList_append_at w4 rfl _ _ rfl w3.heap.size [] ⟨⟨#[120, 109, 108, 110, 115]⟩, name, other⟩ (.slice (some ⟨w3.heap.size, 0, none⟩) 0 (n + 1)) rfl rfl H5.out.1 H5.out.2.size (by simp) ?_; intro v5 w5 hown5 hst5)
        have H6 : Hid (Own w5 w3.heap.size v5 [⟨⟨#[120, 109, 108, 110, 115]⟩, name, other⟩] ∧ Still w3 w5) := ⟨hown5, Below.trans H5.out.2 hst5⟩
        clear hown5 hst5 H5
        have HI5 : Hid (In w5 a1 L) := HI.out.still (H4.out.trans H6.out.2)
        go_wp2_with fail
        refine (build_any a1 n cap L w5 HN.out hn1 HNIL.out HI5.out).mono ?_
        rintro r w6 ⟨v6, rfl, hown6, hst6⟩
        have H7 : Hid (Own w6 w3.heap.size v5 [⟨⟨#[120, 109, 108, 110, 115]⟩, name, other⟩] ∧ Own w6 w3.heap.size v6 L ∧ Still w3 w6) := ⟨H6.out.1.still hst6, hown6.bound H6.out.2.size, H6.out.2.trans hst6⟩
        clear hown6 hst6 H6 HI5
        go_wp2_with (at_builtin; refine wpList_append_more w6 rfl _ _ rfl w3.heap.size [⟨⟨#[120, 109, 108, 110, 115]⟩, name, other⟩] L v5 v6 rfl rfl H7.out.1 H7.out.2.1 H7.out.2.2.size (by rw [HN.out]; simp; omega) ?_; intro v7 w7 hown7 hst7; obtain ⟨am, cm, hv7, _⟩ := hown7.slice; rw [show ([⟨⟨#[120, 109, 108, 110, 115]⟩, name, other⟩] ++ L : List At).length = n + 1 by rw [← HN.out]; simp] at hv7; subst hv7)
        have H8 : Hid (Own w7 w3.heap.size (.slice am (n + 1) cm) (⟨⟨#[120, 109, 108, 110, 115]⟩, name, other⟩ :: L) ∧ Still w3 w7) := ⟨hown7, Below.trans H7.out.2.2 hst7⟩
        clear hown7 hst7 H7
        have hF := heap_alloc_new w7 (.cells #[.string ⟨#[]⟩, .string ⟨#[]⟩, .string ⟨#[]⟩, .slice am (n + 1) cm, .int .i64 0] 29)
        have hF3 : (w7.alloc (.cells #[.string ⟨#[]⟩, .string ⟨#[]⟩, .string ⟨#[]⟩, .slice am (n + 1) cm, .int .i64 0] 29)).cell? ⟨w7.heap.size, 3, none⟩ = some (.slice am (n + 1) cm) := by rw [cell_of_row _ _ _ _ _ _ hF]; rfl
        have H9 : Hid (Own (w7.alloc (.cells #[.string ⟨#[]⟩, .string ⟨#[]⟩, .string ⟨#[]⟩, .slice am (n + 1) cm, .int .i64 0] 29)) w3.heap.size (.slice am (n + 1) cm) (⟨⟨#[120, 109, 108, 110, 115]⟩, name, other⟩ :: L) ∧ Still w3 (w7.alloc (.cells #[.string ⟨#[]⟩, .string ⟨#[]⟩, .string ⟨#[]⟩, .slice am (n + 1) cm, .int .i64 0] 29))) := ⟨H8.out.1.still (still_alloc w7 _), H8.out.2.alloc _⟩
        clear hF H8
        go_wp2_with fail
        refine (look_any w7.heap.size w3.heap.size name (.slice am (n + 1) cm) (⟨⟨#[120, 109, 108, 110, 115]⟩, name, other⟩ :: L) _ hF3 H9.out.1 (by rw [List.length_cons, HN.out]; omega)).mono ?_
        rintro r w8 ⟨rfl, hs8⟩
        have H10 : Hid (Still w w8) := H4.out.trans (H9.out.2.trans hs8)
        have hlk : look name (⟨⟨#[120, 109, 108, 110, 115]⟩, name, other⟩ :: L) = o := by
          rw [← HO.out]
          have hm : mt name ⟨⟨#[120, 109, 108, 110, 115]⟩, name, other⟩ = false := by
            simp only [mt, hsp1, Bool.false_and]
          simp [look, hm]
        rw [hlk]
        clear hF3 H9 hs8 hlk
        simp only [ans, ansV]
        go_wp2
        go_ret
        exact ⟨rfl, H10.out⟩
      · have hsp1 : decide (space.toList = []) = false := by simp [hsp]
        have hsp2 : space.toList.isEmpty = false := by simp [hsp]
        go_wp2_with fail
        refine (build_any a1 n cap L w hn hn1 hnil hin).mono ?_
        rintro r w1 ⟨v, rfl, hown, hst⟩
        obtain ⟨av, cv, hav, _⟩ := hown.slice
        rw [hn] at hav
        subst hav
        have H1 : Hid (Own w1 w.heap.size (.slice av n cv) L ∧ Still w w1) := ⟨hown, hst⟩
        have HN : Hid (L.length = n) := hn
        have HI : Hid (In w a1 L) := hin
        have HNIL : Hid (a1 = none → n = 0 ∧ cap = 0) := hnil
        clear hown hst hin hnil hn
        have hE := heap_alloc_new w1 (.cells #[.string ⟨#[]⟩, .string ⟨#[]⟩, .string ⟨#[]⟩, .slice av n cv, .int .i64 0] 29)
        have hE3 : (w1.alloc (.cells #[.string ⟨#[]⟩, .string ⟨#[]⟩, .string ⟨#[]⟩, .slice av n cv, .int .i64 0] 29)).cell? ⟨w1.heap.size, 3, none⟩ = some (.slice av n cv) := by rw [cell_of_row _ _ _ _ _ _ hE]; rfl
        have H2 : Hid (Own (w1.alloc (.cells #[.string ⟨#[]⟩, .string ⟨#[]⟩, .string ⟨#[]⟩, .slice av n cv, .int .i64 0] 29)) w.heap.size (.slice av n cv) L ∧ Still w (w1.alloc (.cells #[.string ⟨#[]⟩, .string ⟨#[]⟩, .string ⟨#[]⟩, .slice av n cv, .int .i64 0] 29))) := ⟨H1.out.1.still (still_alloc w1 _), H1.out.2.alloc _⟩
        have hsz : w1.heap.size < (w1.alloc (.cells #[.string ⟨#[]⟩, .string ⟨#[]⟩, .string ⟨#[]⟩, .slice av n cv, .int .i64 0] 29)).heap.size := by simp
        clear hE H1
        go_wp2_with fail
        refine (look_any w1.heap.size w.heap.size name (.slice av n cv) L _ hE3 H2.out.1 (by rw [HN.out]; omega)).mono ?_
        rintro r w2 ⟨rfl, hs2⟩
        have g3 := (hs2.cell (p := ⟨w1.heap.size, 3, none⟩) hsz).trans hE3
        have H3 : Hid (Own w2 w.heap.size (.slice av n cv) L ∧ Still w w2) := ⟨H2.out.1.still hs2, H2.out.2.trans hs2⟩
        clear hE3 H2 hs2 hsz
        simp only [ans]
        go_wp2_with fail
        refine (attr_any w1.heap.size w.heap.size name (.slice av n cv) L _ g3 H3.out.1 (by rw [HN.out]; omega)).mono ?_
        rintro r w3 ⟨rfl, hs3⟩
        have H4 : Hid (Still w w3) := H3.out.2.trans hs3
        clear g3 H3 hs3
        generalize ho : look name L = o at *
        have HO : Hid (look name L = o) := ho
        clear ho
        simp only [ansV]
        go_wp2_with (at_make; refine wpList_make_own _ rfl _ _ 26 rfl w3.heap.size 36 i0 _ 3 Yba.underlying26 hi hz0 hz1 _ _ _ (n + 1) rfl rfl (by omega) ?b2 ?b3 (Nat.le_refl _) ?_)
        case b2 => rw [hz2]; omega
        case b3 => unfold maxLen; omega
        intro w4 hown4 hgrow4
        have H5 : Hid (Own w4 w3.heap.size (.slice (some ⟨w3.heap.size, 0, none⟩) 0 (n + 1)) [] ∧ Still w3 w4) := ⟨hown4, (Below.refl _ _).grown hgrow4 (Nat.le_refl _) (fun k hk => by cases hk)⟩
        clear hown4 hgrow4
        go_wp2_with (at_builtin; refine wpList_append_at w4 rfl _ _ rfl w3.heap.size [] ⟨space, name, other⟩ (.slice (some ⟨w3.heap.size, 0, none⟩) 0 (n + 1)) rfl rfl H5.out.1 H5.out.2.size (by simp) ?_; intro v5 w5 hown5 hst5)
        have H6 : Hid (Own w5 w3.heap.size v5 [⟨space, name, other⟩] ∧ Still w3 w5) := ⟨hown5, Below.trans H5.out.2 hst5⟩
        clear hown5 hst5 H5
        have HI5 : Hid (In w5 a1 L) := HI.out.still (H4.out.trans H6.out.2)
        go_wp2_with fail
        refine (build_any a1 n cap L w5 HN.out hn1 HNIL.out HI5.out).mono ?_
        rintro r w6 ⟨v6, rfl, hown6, hst6⟩
        have H7 : Hid (Own w6 w3.heap.size v5 [⟨space, name, other⟩] ∧ Own w6 w3.heap.size v6 L ∧ Still w3 w6) := ⟨H6.out.1.still hst6, hown6.bound H6.out.2.size, H6.out.2.trans hst6⟩
        clear hown6 hst6 H6 HI5
        go_wp2_with (at_builtin; refine wpList_append_more w6 rfl _ _ rfl w3.heap.size [⟨space, name, other⟩] L v5 v6 rfl rfl H7.out.1 H7.out.2.1 H7.out.2.2.size (by rw [HN.out]; simp; omega) ?_; intro v7 w7 hown7 hst7; obtain ⟨am, cm, hv7, _⟩ := hown7.slice; rw [show ([⟨space, name, other⟩] ++ L : List At).length = n + 1 by rw [← HN.out]; simp] at hv7; subst hv7)
        have H8 : Hid (Own w7 w3.heap.size (.slice am (n + 1) cm) (⟨space, name, other⟩ :: L) ∧ Still w3 w7) := ⟨hown7, Below.trans H7.out.2.2 hst7⟩
        clear hown7 hst7 H7
        have hF := heap_alloc_new w7 (.cells #[.string ⟨#[]⟩, .string ⟨#[]⟩, .string ⟨#[]⟩, .slice am (n + 1) cm, .int .i64 0] 29)
        have hF3 : (w7.alloc (.cells #[.string ⟨#[]⟩, .string ⟨#[]⟩, .string ⟨#[]⟩, .slice am (n + 1) cm, .int .i64 0] 29)).cell? ⟨w7.heap.size, 3, none⟩ = some (.slice am (n + 1) cm) := by rw [cell_of_row _ _ _ _ _ _ hF]; rfl
        have H9 : Hid (Own (w7.alloc (.cells #[.string ⟨#[]⟩, .string ⟨#[]⟩, .string ⟨#[]⟩, .slice am (n + 1) cm, .int .i64 0] 29)) w3.heap.size (.slice am (n + 1) cm) (⟨space, name, other⟩ :: L) ∧ Still w3 (w7.alloc (.cells #[.string ⟨#[]⟩, .string ⟨#[]⟩, .string ⟨#[]⟩, .slice am (n + 1) cm, .int .i64 0] 29))) := ⟨H8.out.1.still (still_alloc w7 _), H8.out.2.alloc _⟩
        clear hF H8
        go_wp2_with fail
        refine (look_any w7.heap.size w3.heap.size name (.slice am (n + 1) cm) (⟨space, name, other⟩ :: L) _ hF3 H9.out.1 (by rw [List.length_cons, HN.out]; omega)).mono ?_
        rintro r w8 ⟨rfl, hs8⟩
        have H10 : Hid (Still w w8) := H4.out.trans (H9.out.2.trans hs8)
        have hlk : look name (⟨space, name, other⟩ :: L) = o := by
          rw [← HO.out]
          have hm : mt name ⟨space, name, other⟩ = false := by
            simp only [mt, hsp1, Bool.false_and]
          simp [look, hm]
        rw [hlk]
        clear hF3 H9 hs8 hlk
        simp only [ans, ansV]
        go_wp2
        go_ret
        exact ⟨rfl, H10.out⟩
end Go.Proofs.Ybulkbgdk
