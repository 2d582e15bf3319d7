/-
  THE WALKS OF THE CALLEES: zzs2853bok (5), isSeparator (7), isList (6).
-/
import Derived.Test.YbulkbgbgRows
import Derived.WalkKit
import Derived.WalkSpells
import Derived.ProofKit
import Derived.Below
import Derived.LoopTactic
namespace Go.Proofs.Ybulkbgbg
open Go.RowKit

/-- The bytes of a list of exact names. -/
def okI (c : Int) : Bool := decide ((97 ≤ c ∧ c ≤ 122) ∨ (65 ≤ c ∧ c ≤ 90) ∨ (48 ≤ c ∧ c ≤ 57) ∨ c = 95 ∨ c = 45 ∨ c = 32 ∨ c = 124 ∨ c = 44)

theorem okI_true {c : Int} (h : (97 ≤ c ∧ c ≤ 122) ∨ (65 ≤ c ∧ c ≤ 90) ∨ (48 ≤ c ∧ c ≤ 57) ∨ c = 95 ∨ c = 45 ∨ c = 32 ∨ c = 124 ∨ c = 44) : okI c = true := by
  unfold okI; exact decide_eq_true h
theorem okI_false {c : Int} (h : ¬ ((97 ≤ c ∧ c ≤ 122) ∨ (65 ≤ c ∧ c ≤ 90) ∨ (48 ≤ c ∧ c ≤ 57) ∨ c = 95 ∨ c = 45 ∨ c = 32 ∨ c = 124 ∨ c = 44)) : okI c = false := by
  unfold okI; exact decide_eq_false h

/-- Every byte of the list is one of them. -/
def okL (l : List UInt8) : Bool := l.all fun b => okI (b.toNat : Int)

theorem okL_snoc (l : List UInt8) (b : UInt8) : okL (l ++ [b]) = (okL l && okI (b.toNat : Int)) := by
  unfold okL; simp

theorem okL_append (l m : List UInt8) : okL (l ++ m) = (okL l && okL m) := by
  unfold okL; simp

theorem take_snoc (s : ByteArray) (k : Nat) (h : k < s.size) : s.data.toList.take (k + 1) = s.data.toList.take k ++ [s[k]] := by
  rw [List.take_succ_eq_append_getElem (by simpa using h)]; rfl

theorem okL_bad (s : ByteArray) (k : Nat) (h : k < s.size) (hb : okI (s[k].toNat : Int) = false) : okL s.data.toList = false := by
  have e : s.data.toList = s.data.toList.take (k + 1) ++ s.data.toList.drop (k + 1) := (List.take_append_drop _ _).symm
  rw [e, take_snoc s k h, okL_append, okL_snoc, hb]
  simp

theorem okL_step (s : ByteArray) (k : Nat) (h : k < s.size) (hg : okL (s.data.toList.take k) = true) (hb : okI (s[k].toNat : Int) = true) : okL (s.data.toList.take (k + 1)) = true := by
  rw [take_snoc s k h, okL_snoc, hg, hb]; rfl

theorem okL_end (s : ByteArray) (k : Nat) (h : ¬ k < s.size) : s.data.toList.take k = s.data.toList := by
  rw [List.take_of_length_le (by simpa using (by omega : s.size ≤ k))]

theorem ret_bool {a b : Bool} (h : a = b) : Ending.returned (.bool a) = .returned (.bool b) := by rw [h]

set_option maxHeartbeats 1000000 in
theorem sep_any (c : Int) (w : World) : Calls Yba.prog 7 #[.int .i32 c] w fun e w' => e = .returned (.bool (decide (c = 124 ∨ c = 44))) ∧ w' = w := by
  by_cases h1 : c = 124
  · subst h1
    go_enter Yba.func7, Yba.ntmps7
    go_wp2
    go_ret
    exact ⟨rfl, rfl⟩
  · have b1 : (c == 124) = false := beq_eq_false_iff_ne.2 h1
    by_cases h2 : c = 44
    · subst h2
      go_enter Yba.func7, Yba.ntmps7
      go_wp2
      go_ret
      exact ⟨rfl, rfl⟩
    · have b2 : (c == 44) = false := beq_eq_false_iff_ne.2 h2
      have e : (decide (c = 124 ∨ c = 44)) = false := decide_eq_false (by omega)
      rw [e]
      clear e
      go_enter Yba.func7, Yba.ntmps7
      go_wp2
      go_ret
      exact ⟨rfl, rfl⟩

set_option maxHeartbeats 1000000 in
theorem ok_any (c : Int) (w : World) (h0 : 0 ≤ c) (h1 : c ≤ 255) : Calls Yba.prog 5 #[.int .u8 c] w fun e w' => e = .returned (.bool (okI c)) ∧ w' = w := by
  by_cases hg : (97 ≤ c ∧ c ≤ 122) ∨ (65 ≤ c ∧ c ≤ 90) ∨ (48 ≤ c ∧ c ≤ 57) ∨ c = 95 ∨ c = 45 ∨ c = 32 ∨ c = 124 ∨ c = 44
  · rw [okI_true hg]
    rcases hg with ⟨a, b⟩ | ⟨a, b⟩ | ⟨a, b⟩ | a | a | a | a | a
    · go_enter Yba.func5, Yba.ntmps5
      go_wp2
      go_ret
      exact ⟨rfl, rfl⟩
    · go_enter Yba.func5, Yba.ntmps5
      go_wp2
      go_ret
      exact ⟨rfl, rfl⟩
    · go_enter Yba.func5, Yba.ntmps5
      go_wp2
      go_ret
      exact ⟨rfl, rfl⟩
    all_goals
      subst a
      go_enter Yba.func5, Yba.ntmps5
      go_wp2
      go_ret
      exact ⟨rfl, rfl⟩
  · rw [okI_false hg]
    have b1 : (c == 95) = false := beq_eq_false_iff_ne.2 (by omega)
    have b2 : (c == 45) = false := beq_eq_false_iff_ne.2 (by omega)
    have b3 : (c == 32) = false := beq_eq_false_iff_ne.2 (by omega)
    have b4 : (c == 124) = false := beq_eq_false_iff_ne.2 (by omega)
    have b5 : (c == 44) = false := beq_eq_false_iff_ne.2 (by omega)
    rcases (show c < 48 ∨ (57 < c ∧ c < 65) ∨ (90 < c ∧ c < 97) ∨ 122 < c from by omega) with a | ⟨a, b⟩ | ⟨a, b⟩ | a
    all_goals
      clear hg
      go_enter Yba.func5, Yba.ntmps5
      go_wp2
      go_ret
      exact ⟨rfl, rfl⟩

set_option maxRecDepth 1000000 in
set_option maxHeartbeats 2000000 in
theorem list_any (s : ByteArray) (w : World) :
    Calls Yba.prog 6 #[.string s] w fun e w' => e = .returned (.bool (okL s.data.toList)) ∧ ∃ pos, w' = w.iter s pos := by
  go_enter Yba.func6, Yba.ntmps6
  go_wp2
  go_loopw [4] (fun _ w' => ∃ pos : Nat, w' = w.iter s pos ∧ Hid (okL (s.data.toList.take pos) = true)) (fun _ w' => s.size - w'.iterPos w.heap.size)
  case atStart => exact ⟨0, rfl, rfl⟩
  case round =>
    obtain ⟨pos, rfl, HG⟩ := hrel
    by_cases hp : pos < s.size
    · by_cases ha : (s[pos]'hp).toNat < 128
      · have hnx0 := fun ty => run_next_ascii (P := Yba.prog) w s pos ty hp ha
        have HB : Hid (okI ((s[pos]'hp).toNat : Int) = false → okL s.data.toList = false) := okL_bad s pos hp
        have HS : Hid (okI ((s[pos]'hp).toNat : Int) = true → okL (s.data.toList.take (pos + 1)) = true) := okL_step s pos hp HG.out
        have hlo : (0 : Int) ≤ ((s[pos]'hp).toNat : Int) := by omega
        have hhi : ((s[pos]'hp).toNat : Int) < 128 := by omega
        clear ha
        generalize ((s[pos]'hp).toNat : Int) = c at *
        by_cases hg : (97 ≤ c ∧ c ≤ 122) ∨ (65 ≤ c ∧ c ≤ 90) ∨ (48 ≤ c ∧ c ≤ 57) ∨ c = 95 ∨ c = 45 ∨ c = 32 ∨ c = 124 ∨ c = 44
        · have HT : Hid (okL (s.data.toList.take (pos + 1)) = true) := HS.out (okI_true hg)
          clear HS HB HG
          rcases hg with ⟨a, b⟩ | ⟨a, b⟩ | ⟨a, b⟩ | a | a | a | a | a
          all_goals
            try subst a
            go_wp2
            go_roundw
            case rel => exact ⟨pos + 1, rfl, HT⟩
            case measure => simp; omega
        · have HT : Hid (okL s.data.toList = false) := HB.out (okI_false hg)
          have b1 : (c == 95) = false := beq_eq_false_iff_ne.2 (by omega)
          have b2 : (c == 45) = false := beq_eq_false_iff_ne.2 (by omega)
          have b3 : (c == 32) = false := beq_eq_false_iff_ne.2 (by omega)
          have b4 : (c == 124) = false := beq_eq_false_iff_ne.2 (by omega)
          have b5 : (c == 44) = false := beq_eq_false_iff_ne.2 (by omega)
          clear HS HB HG
          rcases (show c < 48 ∨ (57 < c ∧ c < 65) ∨ (90 < c ∧ c < 97) ∨ 122 < c from by omega) with a | ⟨a, b⟩ | ⟨a, b⟩ | a
          all_goals
            clear hg
            go_wp2
            go_ret
            exact ⟨ret_bool HT.out.symm, _, rfl⟩
      · have hnx0 := fun ty => run_next_any (P := Yba.prog) w s pos ty hp
        have hhi0 := (decode_high s pos hp (by omega)).1
        have hhi : (128 : Int) ≤ ((Utf8.decode s pos).1 : Int) := by omega
        have HT : Hid (okL s.data.toList = false) := okL_bad s pos hp (okI_false (by omega))
        clear hhi0 ha HG
        generalize ((Utf8.decode s pos).1 : Int) = c at *
        have b1 : (c == 95) = false := beq_eq_false_iff_ne.2 (by omega)
        have b2 : (c == 45) = false := beq_eq_false_iff_ne.2 (by omega)
        have b3 : (c == 32) = false := beq_eq_false_iff_ne.2 (by omega)
        have b4 : (c == 124) = false := beq_eq_false_iff_ne.2 (by omega)
        have b5 : (c == 44) = false := beq_eq_false_iff_ne.2 (by omega)
        go_wp2
        go_ret
        exact ⟨ret_bool HT.out.symm, _, rfl⟩
    · have hnx0 := fun ty => run_next_end (P := Yba.prog) w s pos ty hp
      have HT : Hid (okL s.data.toList = true) := by
        have h := HG.out
        rw [okL_end s pos hp] at h
        exact h
      clear HG
      go_wp2
      go_ret
      exact ⟨ret_bool HT.out.symm, _, rfl⟩
end Go.Proofs.Ybulkbgbg
