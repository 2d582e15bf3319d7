/-
  The attributes that came in, and those that the call builds; the four small functions' contracts.
-/
import Derived.Test.YbulkbgdkRows
import Derived.WalkKit
import Derived.WalkSpells
import Derived.OwnWalk
import Derived.BigQuiet
import Derived.Deep.QuietTactic
import Derived.Deep.RegionLaw
import Derived.Laws.AppendOwn
import Derived.Laws.AppendOwnNone
import Derived.Below
namespace Go.Proofs.Ybulkbgdk
open Go.RowKit
set_option linter.unusedVariables false

/-- An attribute: namespace, local name, value. -/
structure At where
  s : ByteArray
  l : ByteArray
  v : ByteArray

/-- Nothing that stood is changed. -/
abbrev Still (w w' : World) : Prop := Below w.heap.size w w'
theorem Still.trans {a b c : World} (h : Still a b) (k : Still b c) : Still a c := Below.trans h (Below.mono k h.size)
theorem Still.drewN {a w : World} (h : Still a w) (n : Nat) : Still a (w.drewN n) := Below.trans h ⟨rfl, rfl, rfl, Nat.le_refl _, fun _ _ => rfl⟩
theorem Still.alloc {a w : World} (h : Still a w) (o : Obj) : Still a (w.alloc o) := Below.alloc h h.size o
theorem below_still {B : Nat} {a w w' : World} (h : Below B a w) (k : Still w w') (hB : B ≤ w.heap.size) : Below B a w' := h.trans (k.mono hB)

theorem lt_cell {w : World} {a : Addr} {v : Value} (h : w.cell? a = some v) : a.block < w.heap.size := by
  rcases Nat.lt_or_ge a.block w.heap.size with h1 | h1
  · exact h1
  · have : w.heap[a.block]? = none := by simp [h1]
    simp [World.cell?, this] at h

/-- The slice that came in reads as L. -/
def In (w : World) (a : Option Addr) (L : List At) : Prop :=
  ∀ A x D, L = A ++ x :: D → ∃ b off, a = some ⟨b, off, none⟩ ∧ w.cell? ⟨b, off + A.length * 3, none⟩ = some (.string x.s) ∧ w.cell? ⟨b, off + A.length * 3 + 1, none⟩ = some (.string x.l) ∧ w.cell? ⟨b, off + A.length * 3 + 2, none⟩ = some (.string x.v)
theorem In.still {w w' : World} {a : Option Addr} {L : List At} (h : In w a L) (k : Still w w') : In w' a L := by
  intro A x D hL
  obtain ⟨b, off, ha, h0, h1, h2⟩ := h A x D hL
  exact ⟨b, off, ha, (k.cell (lt_cell h0)).trans h0, (k.cell (lt_cell h1)).trans h1, (k.cell (lt_cell h2)).trans h2⟩

def acells (x : At) : List Value := [.string x.s, .string x.l, .string x.v]
def aflat (L : List At) : List Value := L.flatMap acells
theorem aflat_length : ∀ L : List At, (aflat L).length = L.length * 3
  | [] => rfl
  | x :: l => by
    have := aflat_length l
    simp only [aflat, List.flatMap_cons, List.length_append, List.length_cons] at this ⊢
    simp only [acells, List.length_cons, List.length_nil]
    omega
theorem aflat_append (A B : List At) : aflat (A ++ B) = aflat A ++ aflat B := by simp [aflat]
theorem aflat_at (A B : List At) (x : At) (c : Nat) (hc : c < 3) : (aflat (A ++ x :: B))[A.length * 3 + c]? = (acells x)[c]? := by
  rw [aflat_append, List.getElem?_append_right (by rw [aflat_length]; omega), aflat_length, show A.length * 3 + c - A.length * 3 = c by omega]
  rw [show aflat (x :: B) = acells x ++ aflat B by simp [aflat], List.getElem?_append_left (by simp [acells]; omega)]
theorem aone (L : List At) : ∀ u ∈ aflat L, u.oneCell' = true := by
  intro u hu
  obtain ⟨x, _, hx⟩ := List.mem_flatMap.1 hu
  simp only [acells, List.mem_cons, List.not_mem_nil, or_false] at hx
  rcases hx with rfl | rfl | rfl <;> rfl

/-- The slice that the call built reads as L. -/
def Own (w : World) (B : Nat) (v : Value) (L : List At) : Prop := w.ownsRow B 36 3 v L.length (aflat L)
theorem Own.still {w w' : World} {B : Nat} {v : Value} {L : List At} (h : Own w B v L) (k : Still w w') : Own w' B v L := by
  obtain ⟨h1, h2⟩ := h
  refine ⟨h1, ?_⟩
  rcases h2 with h2 | ⟨g, cap, cur, rfl, hgB, hh, r⟩
  · exact .inl h2
  · exact .inr ⟨g, cap, cur, rfl, hgB, (k.block g (Array.getElem?_eq_some_iff.1 hh).1).trans hh, r⟩
theorem Own.slice {w : World} {B : Nat} {v : Value} {L : List At} (h : Own w B v L) : ∃ a c, v = .slice a L.length c ∧ ∀ A x D, L = A ++ x :: D → ∃ g, a = some ⟨g, 0, none⟩ ∧ w.cell? ⟨g, A.length * 3, none⟩ = some (.string x.s) ∧ w.cell? ⟨g, A.length * 3 + 1, none⟩ = some (.string x.l) ∧ w.cell? ⟨g, A.length * 3 + 2, none⟩ = some (.string x.v) := by
  have h' : w.ownsRow B 36 3 v L.length (aflat L) := h
  rcases h.2 with ⟨rfl, h0⟩ | ⟨g, cap, cur, rfl, _⟩
  · exact ⟨_, 0, by rw [h0], fun A x D hL => by rw [hL] at h0; simp at h0⟩
  · refine ⟨_, cap, rfl, fun A x D hL => ⟨g, rfl, ?_⟩⟩
    subst hL
    have hl : (A ++ x :: D).length = A.length + 1 + D.length := by simp; omega
    refine ⟨?_, ?_, ?_⟩
    · rw [h'.cellAt _ (by omega)]; exact aflat_at A D x 0 (by omega)
    · rw [h'.cellAt _ (by omega), aflat_at A D x 1 (by omega)]; rfl
    · rw [h'.cellAt _ (by omega), aflat_at A D x 2 (by omega)]; rfl
theorem Own.bound {w : World} {B B' : Nat} {v : Value} {L : List At} (h : Own w B v L) (hB : B' ≤ B) : Own w B' v L := by
  obtain ⟨h1, h2⟩ := h
  refine ⟨h1, ?_⟩
  rcases h2 with h2 | ⟨g, cap, cur, rfl, hgB, r⟩
  · exact .inl h2
  · exact .inr ⟨g, cap, cur, rfl, Nat.le_trans hB hgB, r⟩

theorem info_parts {α β γ : Type} {o : Option TypeInfo} {f : TypeInfo → α} {g : TypeInfo → β} {h : TypeInfo → γ} {a : α} {b : β} {c : γ} (e : o.map (fun i => (f i, g i, h i)) = some (a, b, c)) : ∃ i, o = some i ∧ f i = a ∧ g i = b ∧ h i = c := by
  obtain ⟨i, hi, he⟩ := Option.map_eq_some_iff.1 e
  simp only [Prod.mk.injEq] at he
  exact ⟨i, hi, he.1, he.2.1, he.2.2⟩

theorem Yba.info36 : (Yba.prog.info? 36).map (fun i => (i.zero, i.size, i.bytes)) = some (some (.agg #[.string ByteArray.empty, .string ByteArray.empty, .string ByteArray.empty]), 3, 48) := by kernel_rfl

/-- One attribute behind the others, as a step of a region that draws. -/
theorem step_append_at {ops : Array Oper} {o : Oper} {a : Act} {K : Act → World → Prop} {Q : Exit → Act → World → Prop} {E : Prop} (wX : World) (hgd : o.guard = none) (s x : Operand) (ho : o.op = .call { callee := .builtin .append, args := #[s, x], argTypes := #[26, 26] })
    (B : Nat) (A : List At) (X : At) (v : Value) (hs : a.eval s = v) (hx : a.eval x = .slice (some ⟨wX.heap.size, 0, none⟩) 1 1) (hown : Own wX B v A) (hB : B ≤ wX.heap.size) (hl : A.length ≤ 5000)
    (h : ∀ v' w', Own w' B v' (A ++ [X]) → Below B wX w' → K (a.put o.dst v') w') :
    if Region.wanted o (yielded ops a.tmps) = true then Oper.wp Yba.prog o a (wX.alloc (.cells #[.string X.s, .string X.l, .string X.v] 36)) K Q else E := by
  have hw : Region.wanted o (yielded ops a.tmps) = true := by simp [Region.wanted, hgd]
  rw [if_pos hw]
  obtain ⟨i0, hi, hz0, hz1, hz2⟩ := info_parts Yba.info36
  have hblk := heap_alloc_new wX (.cells #[.string X.s, .string X.l, .string X.v] 36)
  have hsz : wX.heap.size ≤ (wX.alloc (.cells #[.string X.s, .string X.l, .string X.v] 36)).heap.size := by simp
  refine wp_append_own _ s x 26 ho B 36 i0 _ 3 48 Yba.underlying26 hi hz0 hz1 hz2 rfl (by omega) v A.length (aflat A) hs (World.ownsRow.alloc hown _) ⟨wX.heap.size, 0, none⟩ 1 1 (acells X) hx (by simp [acells]) ?_ ?_ (by unfold maxLen; omega) (by omega) (by omega) ?_
  · intro j u hj
    have hj3 : j < 3 := by have := (List.getElem?_eq_some_iff.1 hj).1; simpa [acells] using this
    rw [show (⟨wX.heap.size, 0, none⟩ : Addr).add j = ⟨wX.heap.size, j, none⟩ by unfold Addr.add; split <;> simp_all, cell_of_row _ _ _ _ _ _ hblk]
    match j, hj3, hj with
    | 0, _, hj => simpa [acells] using hj
    | 1, _, hj => simpa [acells] using hj
    | 2, _, hj => simpa [acells] using hj
  · intro u hu
    exact aone [X] u (by simpa [aflat] using hu)
  · intro v' w' hown' hg _
    refine h v' w' ?_ ?_
    · show World.ownsRow _ _ _ _ _ _ _
      rw [aflat_append, show (A ++ [X]).length = A.length + 1 by simp]
      simpa [aflat] using hown'
    · have h0 : Below B wX (wX.alloc (.cells #[.string X.s, .string X.l, .string X.v] 36)) := (Below.refl B wX).alloc hB _
      refine h0.grown hg (by omega) ?_
      intro k hk
      rcases hown.2 with ⟨rfl, _⟩ | ⟨g, cap, cur, rfl, hBg, _⟩
      · simp [Value.ownBlock] at hk
      · simp [Value.ownBlock] at hk; omega

theorem split_at (L : List At) (k : Nat) (h : k < L.length) : ∃ A y D, L = A ++ y :: D ∧ A.length = k := ⟨L.take k, L[k], L.drop (k + 1), by simp, by simp; omega⟩

set_option maxRecDepth 100000 in
set_option maxHeartbeats 4000000 in
/-- 'zzs2857abuild'. -/
theorem build_any (a1 : Option Addr) (n cap : Nat) (L : List At) (w : World) (hn : L.length = n) (hn1 : n ≤ 1024) (hnil : a1 = none → n = 0 ∧ cap = 0) (hin : In w a1 L) :
    Calls Yba.prog 5 #[.slice a1 n cap] w fun r w' => ∃ v, r = .returned v ∧ Own w' w.heap.size v L ∧ Still w w' := by
  cases a1 with
  | none =>
    obtain ⟨rfl, rfl⟩ := hnil rfl
    have hL : L = [] := List.eq_nil_of_length_eq_zero hn
    subst hL
    have hq := Lib.run_eql_slice_nil (P := Yba.prog) w 22 24 none 0 0 0 0 Yba.underlying22
    go_enter Yba.func5, Yba.ntmps5
    go_wp2
    go_ret
    exact ⟨_, rfl, World.ownsRow_nil _ _ _ _, Below.refl _ _⟩
  | some ad =>
    obtain ⟨i0, hi, hz0, hz1, hz2⟩ := info_parts Yba.info36
    have HI : Hid (In w (some ad) L) := hin
    clear hin hnil
    have hq := Lib.run_eql_slice_nil (P := Yba.prog) w 22 24 (some ad) n cap 0 0 Yba.underlying22
    go_enter Yba.func5, Yba.ntmps5
    go_wp2_with (at_make; refine wpList_make_own _ rfl _ _ 26 rfl w.heap.size 36 i0 _ 3 Yba.underlying26 hi hz0 hz1 _ _ _ n rfl rfl (by omega) ?b2 ?b3 (Nat.le_refl _) ?_)
    case b2 => rw [hz2]; omega
    case b3 => unfold maxLen; omega
    intro w1 hown hgrow
    have HO : Hid (Own w1 w.heap.size (.slice (some ⟨w.heap.size, 0, none⟩) 0 n) [] ∧ Still w w1) := ⟨hown, (Below.refl _ _).grown hgrow (Nat.le_refl _) (fun k hk => by cases hk)⟩
    clear hown hgrow
    go_wp2
    go_loopw [3, 4] (fun v i wr => ∃ A D, L = A ++ D ∧ i = .int .i64 A.length ∧ Hid (Own wr w.heap.size v A ∧ Still w wr)) (fun _ i _ => n - (intOf i).toNat)
    case atStart => exact ⟨[], L, rfl, rfl, HO⟩
    case round =>
      clear HO
      obtain ⟨A, D, hL, rfl, HO⟩ := hrel
      have hAn : A.length ≤ n := by rw [← hn, hL]; simp
      have HL : Hid (L = A ++ D) := hL
      clear hL
      by_cases hlt : A.length < n
      · have i0' : (A.length : Int) < (n : Int) := by omega
        cases D with
        | nil =>
          have := HL.out
          simp at this
          rw [this] at hn
          omega
        | cons x D =>
          obtain ⟨b, off, had, c0, c1, c2⟩ := (HI.out.still HO.out.2) A x D HL.out
          cases had
          go_wp2
          have hAl : A.length ≤ 5000 := by omega
          have HD : Hid (Own wr.drew w.heap.size u3 A ∧ w.heap.size ≤ wr.drew.heap.size) := ⟨HO.out.1.still (Below.refl _ _).drew, HO.out.2.size⟩
          have HLx : Hid (L = (A ++ [x]) ++ D) := by
            show L = _
            rw [HL.out]; simp
          go_region_law ((refine step_append_at wr.drew rfl _ _ rfl w.heap.size A x u3 rfl rfl HD.out.1 HD.out.2 hAl ?_; intro v6 w6 hown6 hst6))
          all_goals
            have HO6 : Hid (Own w6 w.heap.size v6 (A ++ [x]) ∧ Still w w6) := ⟨hown6, (Below.drew HO.out.2).trans hst6⟩
            clear hown6 hst6 HD c0 c1 c2
            go_wp2
            go_roundw
            case rel => exact ⟨A ++ [x], D, HLx.out, by simp, HO6⟩
            case measure => simp [intOf]; omega
      · have hA : L = A := by
          have h1 := HL.out
          have h2 : D = [] := by
            have := congrArg List.length h1
            simp at this
            exact List.eq_nil_of_length_eq_zero (by omega)
          rw [h1, h2, List.append_nil]
        have HE : Hid (L = A) := hA
        clear hA
        go_wp2
        go_ret
        refine ⟨_, rfl, ?_, HO.out.2⟩
        rw [HE.out]; exact HO.out.1
end Go.Proofs.Ybulkbgdk
