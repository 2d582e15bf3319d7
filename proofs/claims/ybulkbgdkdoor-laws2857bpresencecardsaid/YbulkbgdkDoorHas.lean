/-
  'zzs2857bprec', 'zzs2857bname', 'hasPreconditions'.
-/
import Derived.Test.YbulkbgdkDoorMap
namespace Go.Proofs.YbulkbgdkDoor
open Go.RowKit
set_option linter.unusedVariables false

theorem l0 : P0.toList = [73, 102, 45, 77, 97, 116, 99, 104] := by rw [ByteArray.toList_eq]; rfl
theorem l1 : P1.toList = [73, 102, 45, 78, 111, 110, 101, 45, 77, 97, 116, 99, 104] := by rw [ByteArray.toList_eq]; rfl
theorem l2 : P2.toList = [73, 102, 45, 77, 111, 100, 105, 102, 105, 101, 100, 45, 83, 105, 110, 99, 101] := by rw [ByteArray.toList_eq]; rfl
theorem l3 : P3.toList = [73, 102, 45, 85, 110, 109, 111, 100, 105, 102, 105, 101, 100, 45, 83, 105, 110, 99, 101] := by rw [ByteArray.toList_eq]; rfl
theorem l4 : P4.toList = [82, 97, 110, 103, 101] := by rw [ByteArray.toList_eq]; rfl
theorem prec_eq (s : ByteArray) : prec s = ((s.toList == [73, 102, 45, 77, 97, 116, 99, 104]) || (s.toList == [73, 102, 45, 78, 111, 110, 101, 45, 77, 97, 116, 99, 104]) || (s.toList == [73, 102, 45, 77, 111, 100, 105, 102, 105, 101, 100, 45, 83, 105, 110, 99, 101]) ||
    (s.toList == [73, 102, 45, 85, 110, 109, 111, 100, 105, 102, 105, 101, 100, 45, 83, 105, 110, 99, 101]) || (s.toList == [82, 97, 110, 103, 101])) := by
  rw [← l0, ← l1, ← l2, ← l3, ← l4]
  simp only [prec, str_eq]

set_option maxRecDepth 100000 in
theorem prec_any (s : ByteArray) (w : World) : Calls Ybad.prog 4 #[.string s] w fun r w' => r = .returned (.bool (prec s)) ∧ w' = w := by
  rw [prec_eq]
  generalize hb0 : (s.toList == [73, 102, 45, 77, 97, 116, 99, 104]) = b0
  generalize hb1 : (s.toList == [73, 102, 45, 78, 111, 110, 101, 45, 77, 97, 116, 99, 104]) = b1
  generalize hb2 : (s.toList == [73, 102, 45, 77, 111, 100, 105, 102, 105, 101, 100, 45, 83, 105, 110, 99, 101]) = b2
  generalize hb3 : (s.toList == [73, 102, 45, 85, 110, 109, 111, 100, 105, 102, 105, 101, 100, 45, 83, 105, 110, 99, 101]) = b3
  generalize hb4 : (s.toList == [82, 97, 110, 103, 101]) = b4
  cases b0
  · cases b1
    · cases b2
      · cases b3
        · cases b4
          · go_enter Ybad.func4, Ybad.ntmps4
            go_wp2
            go_ret
            exact ⟨rfl, rfl⟩
          · go_enter Ybad.func4, Ybad.ntmps4
            go_wp2
            go_ret
            exact ⟨rfl, rfl⟩
        · go_enter Ybad.func4, Ybad.ntmps4
          go_wp2
          go_ret
          exact ⟨by simp, rfl⟩
      · go_enter Ybad.func4, Ybad.ntmps4
        go_wp2
        go_ret
        exact ⟨by simp, rfl⟩
    · go_enter Ybad.func4, Ybad.ntmps4
      go_wp2
      go_ret
      exact ⟨by simp, rfl⟩
  · go_enter Ybad.func4, Ybad.ntmps4
    go_wp2
    go_ret
    exact ⟨by simp, rfl⟩

set_option maxRecDepth 100000 in
theorem name_any (i : Int) (w : World) : Calls Ybad.prog 5 #[.int .i64 i] w fun r w' => ∃ s : ByteArray, r = .returned (.string s) ∧ s.size ≤ maxLen ∧ w' = w := by
  go_enter Ybad.func5, Ybad.ntmps5
  go_wp2
  all_goals
    go_ret
    exact ⟨_, rfl, by decide, rfl⟩

def names (k : Nat) : ByteArray := match k with | 0 => P0 | 1 => P1 | 2 => P2 | 3 => P3 | _ => P4
theorem names_size (k : Nat) : (names k).size ≤ maxLen := by
  match k with
  | 0 => exact (by decide : P0.size ≤ maxLen)
  | 1 => exact (by decide : P1.size ≤ maxLen)
  | 2 => exact (by decide : P2.size ≤ maxLen)
  | 3 => exact (by decide : P3.size ≤ maxLen)
  | _ + 4 => exact (by decide : P4.size ≤ maxLen)
theorem held_true {f : ByteArray → Bool} {k : Nat} (hk : k < 5) (h : f (names k) = true) : held f = true := by
  match k, hk, h with
  | 0, _, h => simp only [names] at h; simp [held, h]
  | 1, _, h => simp only [names] at h; simp [held, h]
  | 2, _, h => simp only [names] at h; simp [held, h]
  | 3, _, h => simp only [names] at h; simp [held, h]
  | 4, _, h => simp only [names] at h; simp [held, h]
theorem held_false {f : ByteArray → Bool} (h : ∀ j, j < 5 → f (names j) = false) : held f = false := by
  have h0 := h 0 (by omega)
  have h1 := h 1 (by omega)
  have h2 := h 2 (by omega)
  have h3 := h 3 (by omega)
  have h4 := h 4 (by omega)
  simp only [names] at h0 h1 h2 h3 h4
  simp [held, h0, h1, h2, h3, h4]

/-- The variable 'preconditions' holds the five names. -/
def Tab (w : World) : Prop := ∃ b off cap, w.cell? ⟨0, 0, none⟩ = some (.slice (some ⟨b, off, none⟩) 5 cap) ∧ ∀ k, k < 5 → w.cell? ⟨b, off + k, none⟩ = some (.string (names k))

set_option maxRecDepth 100000 in
set_option maxHeartbeats 2000000 in
/-- 'hasPreconditions'. -/
theorem has_any (mv : Value) (f : ByteArray → Bool) (w : World) (ht : Tab w) (hlook : ∀ s : ByteArray, s.size ≤ maxLen → ∃ v, (Instr.lookup 29 mv (.string s) true).run Ybad.prog w = .ok (.tuple #[v, .bool (f s)]) w) :
    Calls Ybad.prog 6 #[mv] w fun r w' => r = .returned (.bool (held f)) ∧ w' = w := by
  obtain ⟨b, off, cap, g0, gk⟩ := ht
  have HK : Hid (∀ k, k < 5 → w.cell? ⟨b, off + k, none⟩ = some (.string (names k))) := gk
  have HL : Hid (∀ s : ByteArray, s.size ≤ maxLen → ∃ v, (Instr.lookup 29 mv (.string s) true).run Ybad.prog w = .ok (.tuple #[v, .bool (f s)]) w) := hlook
  clear gk hlook
  go_enter Ybad.func6, Ybad.ntmps6
  go_wp2
  go_loop [9] (fun i => ∃ k : Nat, k ≤ 5 ∧ i = .int .i64 k ∧ ∀ j, j < k → f (names j) = false) (fun i => 5 - (intOf i).toNat)
  case atStart => exact ⟨0, by omega, rfl, fun j hj => by omega⟩
  case round =>
    obtain ⟨k, hk, rfl, hf⟩ := hrel
    have HF : Hid (∀ j, j < k → f (names j) = false) := hf
    clear hf
    by_cases hlt : k < 5
    · have i0 : (k : Int) < 5 := by omega
      have c0 := HK.out k hlt
      obtain ⟨v, hrun⟩ := HL.out (names k) (names_size k)
      generalize hS : names k = S at *
      have HS : Hid (names k = S) := hS
      clear hS
      cases hfk : f S
      · rw [hfk] at hrun
        go_wp2
        go_round
        case rel => exact ⟨k + 1, by omega, by go_num, fun j hj => by
          by_cases e : j = k
          · subst e; rw [HS.out]; exact hfk
          · exact HF.out j (by omega)⟩
        case measure => simp [intOf]; omega
      · rw [hfk] at hrun
        have HT : Hid (held f = true) := held_true hlt (by rw [HS.out]; exact hfk)
        go_wp2
        go_ret
        exact ⟨by rw [HT.out]; rfl, rfl⟩
    · have HT : Hid (held f = false) := held_false (fun j hj => HF.out j (by omega))
      have i0 : ¬ ((k : Int) < 5) := by omega
      go_wp2
      go_ret
      exact ⟨by rw [HT.out]; rfl, rfl⟩
end Go.Proofs.YbulkbgdkDoor
