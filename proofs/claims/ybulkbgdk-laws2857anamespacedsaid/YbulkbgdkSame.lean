/-
  'attr', 'zzs2857asame'.
-/
import Derived.Test.YbulkbgdkLook
namespace Go.Proofs.Ybulkbgdk
open Go.RowKit
set_option linter.unusedVariables false

theorem attr_any (E B : Nat) (name : ByteArray) (v : Value) (L : List At) (w : World) (hE : w.cell? ⟨E, 3, none⟩ = some v) (hown : Own w B v L) (hl : L.length ≤ 5000) :
    Calls Yba.prog 8 #[.pointer (some ⟨E, 0, none⟩), .string name] w fun r w' => r = .returned (ansV (look name L)) ∧ Still w w' := by
  go_enter Yba.func8, Yba.ntmps8
  go_wp2_with fail
  refine (look_any E B name v L w hE hown hl).mono ?_
  rintro r w1 ⟨rfl, hs⟩
  have HS : Hid (Still w w1) := hs
  clear hs
  simp only [ans]
  go_wp2
  go_ret
  exact ⟨rfl, HS.out⟩

set_option maxRecDepth 100000 in
set_option maxHeartbeats 4000000 in
theorem same_any (B : Nat) (v : Value) (a1 : Option Addr) (n cap : Nat) (L : List At) (w : World) (hown : Own w B v L) (hin : In w a1 L) (hn : L.length = n) (hl : n ≤ 5000) :
    Calls Yba.prog 7 #[v, .slice a1 n cap] w fun r w' => r = .returned (.bool true) ∧ Still w w' := by
  obtain ⟨a, c, rfl, hcells⟩ := hown.slice
  have HC : Hid (∀ A x D, L = A ++ x :: D → ∃ g, a = some ⟨g, 0, none⟩ ∧ w.cell? ⟨g, A.length * 3, none⟩ = some (.string x.s) ∧ w.cell? ⟨g, A.length * 3 + 1, none⟩ = some (.string x.l) ∧ w.cell? ⟨g, A.length * 3 + 2, none⟩ = some (.string x.v)) := hcells
  have HI : Hid (In w a1 L) := hin
  have HN : Hid (L.length = n) := hn
  rw [hn]
  clear hcells hown hin hn
  go_enter Yba.func7, Yba.ntmps7
  go_wp2
  go_loopw [5] (fun i wr => ∃ A D, L = A ++ D ∧ i = .int .i64 A.length ∧ Hid (Still w wr)) (fun i _ => n - (intOf i).toNat)
  case atStart => exact ⟨[], L, rfl, rfl, Below.refl _ _⟩
  case round =>
    obtain ⟨A, D, hL, rfl, HS⟩ := hrel
    have HL : Hid (L = A ++ D) := hL
    have hlen : A.length + D.length = n := by rw [← HN.out, hL]; simp
    clear hL
    cases D with
    | nil =>
      have hNl : ¬ ((A.length : Int) < (n : Int)) := by simp at hlen; omega
      go_wp2
      go_ret
      exact ⟨rfl, HS.out⟩
    | cons x D =>
      have hNl : (A.length : Int) < (n : Int) := by simp at hlen; omega
      obtain ⟨g, rfl, c0, c1, c2⟩ := HC.out A x D HL.out
      obtain ⟨b, off, rfl, e0, e1, e2⟩ := HI.out A x D HL.out
      have d0 := (HS.out.cell (lt_cell c0)).trans c0
      have d1 := (HS.out.cell (lt_cell c1)).trans c1
      have d2 := (HS.out.cell (lt_cell c2)).trans c2
      have f0 := (HS.out.cell (lt_cell e0)).trans e0
      have f1 := (HS.out.cell (lt_cell e1)).trans e1
      have f2 := (HS.out.cell (lt_cell e2)).trans e2
      have HLx : Hid (L = (A ++ [x]) ++ D) := by
        show L = _
        rw [HL.out]; simp
      clear c0 c1 c2 e0 e1 e2
      go_wp2
      go_quiet (fail)
      go_wp2
      go_roundw
      case rel => exact ⟨A ++ [x], D, HLx.out, by simp, HS.out.drewN nq⟩
      case measure => simp [intOf]; omega
end Go.Proofs.Ybulkbgdk
