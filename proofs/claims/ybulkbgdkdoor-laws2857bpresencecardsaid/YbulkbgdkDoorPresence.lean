/-
  The law LawS2857BPresence: the walk.
-/
import Derived.Test.YbulkbgdkDoorHas
namespace Go.Proofs.YbulkbgdkDoor
open Go.RowKit
set_option linter.unusedVariables false

abbrev Still (w w' : World) : Prop := Below w.heap.size w w'
theorem lt_cell {w : World} {a : Addr} {v : Value} (h : w.cell? a = some v) : a.block < w.heap.size := by
  rcases Nat.lt_or_ge a.block w.heap.size with h1 | h1
  · exact h1
  · have : w.heap[a.block]? = none := by simp [h1]
    simp [World.cell?, this] at h
theorem Tab.still {w w' : World} (h : Tab w) (k : Still w w') : Tab w' := by
  obtain ⟨b, off, cap, h1, h2⟩ := h
  exact ⟨b, off, cap, (k.cell (lt_cell h1)).trans h1, fun j hj => (k.cell (lt_cell (h2 j hj))).trans (h2 j hj)⟩

/-- The keys that came in. -/
def Strs (w : World) (a : Option Addr) (n : Nat) : Prop := ∀ j, j < n → ∃ b off s, a = some ⟨b, off, none⟩ ∧ w.cell? ⟨b, off + j, none⟩ = some (.string s) ∧ s.size ≤ maxLen
/-- The picks that came in. -/
def Bytes (w : World) (a : Option Addr) (n : Nat) : Prop := ∀ j, j < n → ∃ b off z, a = some ⟨b, off, none⟩ ∧ w.cell? ⟨b, off + j, none⟩ = some (.int .u8 z) ∧ 0 ≤ z ∧ z ≤ 255

/-- The run's state: the map in block M. -/
def Run (w : World) (M n : Nat) (f : ByteArray → Bool) (wr : World) : Prop := MapIs wr M n f ∧ Still w wr ∧ w.heap.size ≤ M
theorem Run.alloc {w wr : World} {M n : Nat} {f : ByteArray → Bool} (h : Run w M n f wr) (o : Obj) : Run w M n f (wr.alloc o) :=
  ⟨h.1.blk (Below.heap_alloc _ _ _ h.1.lt), Below.alloc h.2.1 h.2.1.size o, h.2.2⟩
theorem Run.put {w wr : World} {M n : Nat} {f : ByteArray → Bool} (h : Run w M n f wr) (s : ByteArray) (hs : s.size ≤ maxLen) (hn : n ≤ 5000) (val : Value) :
    ∃ w', (Instr.mapUpdate 24 (.map (some M)) (.string s) val).run Ybad.prog wr = .ok () w' ∧ Run w M (n + 1) (fun s' => decide (s' = s) || f s') w' := by
  obtain ⟨w', h1, h2, h3⟩ := h.1.put s hs (by unfold maxLen; omega) val
  refine ⟨w', h1, h2, ?_, h.2.2⟩
  exact Below.grown h.2.1 h3.grown h.2.1.size (fun k hk => by cases hk; exact h.2.2)

theorem presence_long (a0 a1 : Option Addr) (n0 c0 n1 c1 : Nat) (nm wv : Bool) (w : World) (h : 1024 < n0 ∨ 1024 < n1) :
    Calls Ybad.prog 3 #[.slice a0 n0 c0, .slice a1 n1 c1, .bool nm, .bool wv] w fun e w' => e = .returned (.bool true) ∧ Below w.heap.size w w' := by
  by_cases h0 : 1024 < n0
  · have h0' : (1024 : Int) < (n0 : Int) := by omega
    go_enter Ybad.func3, Ybad.ntmps3
    go_wp2
    go_ret
    exact ⟨rfl, Below.refl _ _⟩
  · have h0' : decide ((1024 : Int) < (n0 : Int)) = false := by simp; omega
    have h1' : (1024 : Int) < (n1 : Int) := by omega
    go_enter Ybad.func3, Ybad.ntmps3
    go_wp2
    go_ret
    exact ⟨rfl, Below.refl _ _⟩

set_option maxRecDepth 100000 in
set_option maxHeartbeats 4000000 in
theorem presence_nil (a0 a1 : Option Addr) (c0 c1 : Nat) (wv : Bool) (w : World) (ht : Tab w) :
    Calls Ybad.prog 3 #[.slice a0 0 c0, .slice a1 0 c1, .bool true, .bool wv] w fun e w' => e = .returned (.bool true) ∧ Below w.heap.size w w' := by
  go_enter Ybad.func3, Ybad.ntmps3
  go_wp2
  refine wp_loop_rounds 1 ?_
  rw [rounds_succ]
  go_wp2
  refine wp_loop_rounds 1 ?_
  rw [rounds_succ]
  go_wp2_with fail
  refine (has_any (.map none) (fun _ => false) w ht (fun s hs => ⟨_, look_nil w s hs⟩)).mono ?_
  rintro r w1 ⟨rfl, rfl⟩
  rw [show held (fun _ => false) = false from rfl]
  go_wp2
  go_ret
  exact ⟨rfl, Below.refl _ _⟩

set_option maxRecDepth 100000 in
set_option maxHeartbeats 8000000 in
theorem presence_row (a0 a1 : Option Addr) (n0 c0 n1 c1 : Nat) (nm wv : Bool) (w : World) (h0 : n0 ≤ 1024) (h1 : n1 ≤ 1024) (hnm : ¬ (nm = true ∧ n0 = 0 ∧ n1 = 0)) (ht : Tab w) (hk : Strs w a0 n0) (hp : Bytes w a1 n1) :
    Calls Ybad.prog 3 #[.slice a0 n0 c0, .slice a1 n1 c1, .bool nm, .bool wv] w fun e w' => e = .returned (.bool true) ∧ Below w.heap.size w w' := by
  have h0' : decide ((1024 : Int) < (n0 : Int)) = false := by simp; omega
  have h1' : decide ((1024 : Int) < (n1 : Int)) = false := by simp; omega
  have HT : Hid (Tab w) := ht
  have HK : Hid (Strs w a0 n0) := hk
  have HP : Hid (Bytes w a1 n1) := hp
  clear ht hk hp
  have HR : Hid (Run w w.heap.size 0 (fun _ => false) (w.alloc (.map #[] 0))) := ⟨MapIs.made w, Below.alloc (Below.refl _ _) (Nat.le_refl _) _, Nat.le_refl _⟩
  cases nm
  · skip
    go_enter Ybad.func3, Ybad.ntmps3
    have hmk : (Instr.makeMap 24 none).run Ybad.prog w = .ok (.map (some w.heap.size)) (w.alloc (.map #[] 0)) := by simp [Instr.makeMap]
    go_wp2
    clear hmk
    generalize hM : w.heap.size = M at *
    have HM : Hid (w.heap.size = M) := hM
    clear hM
    go_loopw [10, 39] (fun wt i wr => ∃ (k : Nat) (f : ByteArray → Bool), k ≤ n0 ∧ i = .int .i64 k ∧ wt = .bool (held f) ∧ Hid (Run w M k f wr)) (fun _ i _ => n0 - (intOf i).toNat)
    case atStart => exact ⟨0, _, Nat.zero_le _, rfl, rfl, HR⟩
    case round =>
      clear HR
      obtain ⟨k, f, hk, rfl, rfl, HR⟩ := hrel
      by_cases hlt : k < n0
      · have i0 : (k : Int) < (n0 : Int) := by omega
        obtain ⟨b, off, s, rfl, cs, hs⟩ := HK.out k hlt
        have ds := (HR.out.2.1.cell (lt_cell cs)).trans cs
        have HS : Hid (s.size ≤ maxLen) := hs
        clear cs hs
        have HH : Hid (held (fun s' => decide (s' = s) || f s') = (held f || prec s)) := held_put f s
        have key : ∀ (w2 : World) (val : Value), Hid (Run w M k f w2) → ∃ w3, (Instr.mapUpdate 24 (.map (some M)) (.string s) val).run Ybad.prog w2 = .ok () w3 ∧ Run w M (k + 1) (fun s' => decide (s' = s) || f s') w3 := fun w2 val h2 => h2.out.put s HS.out (by omega) val
        have HKY : Hid (∀ (w2 : World) (val : Value), Hid (Run w M k f w2) → ∃ w3, (Instr.mapUpdate 24 (.map (some M)) (.string s) val).run Ybad.prog w2 = .ok () w3 ∧ Run w M (k + 1) (fun s' => decide (s' = s) || f s') w3) := key
        clear key
        cases wv
        · obtain ⟨w3, hrun, hr3⟩ := HKY.out wr (.slice none 0 0) HR
          have HR3 : Hid (Run w M (k + 1) (fun s' => decide (s' = s) || f s') w3) := hr3
          clear hr3
          go_wp2_with fail
          refine (prec_any s w3).mono ?_
          rintro r w4 ⟨rfl, rfl⟩
          clear hrun ds
          generalize hpb : prec s = pb at *
          cases pb
          · go_wp2
            go_roundw
            case rel => exact ⟨k + 1, _, by omega, by go_num, by rw [HH.out, Bool.or_false], HR3⟩
            case measure => simp [intOf]; omega
          · go_wp2
            go_roundw
            case rel => exact ⟨k + 1, _, by omega, by go_num, by rw [HH.out, Bool.or_true], HR3⟩
            case measure => simp [intOf]; omega
        · obtain ⟨w3, hrun, hr3⟩ := HKY.out (wr.alloc (.cells #[.string ⟨#[120]⟩] 9)) (.slice (some ⟨wr.heap.size, 0, none⟩) 1 1) (HR.out.alloc _)
          have HR3 : Hid (Run w M (k + 1) (fun s' => decide (s' = s) || f s') w3) := hr3
          clear hr3
          go_wp2_with fail
          refine (prec_any s w3).mono ?_
          rintro r w4 ⟨rfl, rfl⟩
          clear hrun ds
          generalize hpb : prec s = pb at *
          cases pb
          · go_wp2
            go_roundw
            case rel => exact ⟨k + 1, _, by omega, by go_num, by rw [HH.out, Bool.or_false], HR3⟩
            case measure => simp [intOf]; omega
          · go_wp2
            go_roundw
            case rel => exact ⟨k + 1, _, by omega, by go_num, by rw [HH.out, Bool.or_true], HR3⟩
            case measure => simp [intOf]; omega
      · have i0 : ¬ ((k : Int) < (n0 : Int)) := by omega
        have HRx : Hid (Run w M n0 f wr) := by
          have e : k = n0 := by omega
          rw [← e]; exact HR
        clear HR
        go_wp2
        go_loopw [10, 54] (fun wt i wr => ∃ (k : Nat) (f : ByteArray → Bool), k ≤ n1 ∧ i = .int .i64 k ∧ wt = .bool (held f) ∧ Hid (Run w M (n0 + k) f wr)) (fun _ i _ => n1 - (intOf i).toNat)
        case atStart => exact ⟨0, _, Nat.zero_le _, rfl, rfl, HRx⟩
        case round =>
          clear HRx
          obtain ⟨k, f, hk, rfl, rfl, HR⟩ := hrel
          by_cases hlt : k < n1
          · have i0 : (k : Int) < (n1 : Int) := by omega
            obtain ⟨b, off, z, rfl, cs, hz0, hz1⟩ := HP.out k hlt
            have ds := (HR.out.2.1.cell (lt_cell cs)).trans cs
            clear cs
            go_wp2_with fail
            refine (name_any _ _).mono ?_
            rintro r w2 ⟨s, rfl, hs, rfl⟩
            have HS : Hid (s.size ≤ maxLen) := hs
            clear hs ds
            have HH : Hid (held (fun s' => decide (s' = s) || f s') = (held f || prec s)) := held_put f s
            have key : ∀ (w2 : World) (val : Value), Hid (Run w M (n0 + k) f w2) → ∃ w3, (Instr.mapUpdate 24 (.map (some M)) (.string s) val).run Ybad.prog w2 = .ok () w3 ∧ Run w M (n0 + (k + 1)) (fun s' => decide (s' = s) || f s') w3 := fun w2 val h2 => h2.out.put s HS.out (by omega) val
            have HKY : Hid (∀ (w2 : World) (val : Value), Hid (Run w M (n0 + k) f w2) → ∃ w3, (Instr.mapUpdate 24 (.map (some M)) (.string s) val).run Ybad.prog w2 = .ok () w3 ∧ Run w M (n0 + (k + 1)) (fun s' => decide (s' = s) || f s') w3) := key
            clear key
            cases wv
            · obtain ⟨w3, hrun, hr3⟩ := HKY.out w2 (.slice none 0 0) HR
              have HR3 : Hid (Run w M (n0 + (k + 1)) (fun s' => decide (s' = s) || f s') w3) := hr3
              clear hr3
              go_wp2_with fail
              refine (prec_any s w3).mono ?_
              rintro r w4 ⟨rfl, rfl⟩
              clear hrun
              generalize hpb : prec s = pb at *
              cases pb
              · go_wp2
                go_roundw
                case rel => exact ⟨k + 1, _, by omega, by go_num, by rw [HH.out, Bool.or_false], HR3⟩
                case measure => simp [intOf]; omega
              · go_wp2
                go_roundw
                case rel => exact ⟨k + 1, _, by omega, by go_num, by rw [HH.out, Bool.or_true], HR3⟩
                case measure => simp [intOf]; omega
            · obtain ⟨w3, hrun, hr3⟩ := HKY.out (w2.alloc (.cells #[.string ⟨#[120]⟩] 9)) (.slice (some ⟨w2.heap.size, 0, none⟩) 1 1) (HR.out.alloc _)
              have HR3 : Hid (Run w M (n0 + (k + 1)) (fun s' => decide (s' = s) || f s') w3) := hr3
              clear hr3
              go_wp2_with fail
              refine (prec_any s w3).mono ?_
              rintro r w4 ⟨rfl, rfl⟩
              clear hrun
              generalize hpb : prec s = pb at *
              cases pb
              · go_wp2
                go_roundw
                case rel => exact ⟨k + 1, _, by omega, by go_num, by rw [HH.out, Bool.or_false], HR3⟩
                case measure => simp [intOf]; omega
              · go_wp2
                go_roundw
                case rel => exact ⟨k + 1, _, by omega, by go_num, by rw [HH.out, Bool.or_true], HR3⟩
                case measure => simp [intOf]; omega
          · have i0 : ¬ ((k : Int) < (n1 : Int)) := by omega
            have hbel := HR.out.2.1
            go_wp2_with fail
            refine (has_any (.map (some M)) f wr (HT.out.still HR.out.2.1) (fun s hs => HR.out.1.look s hs)).mono ?_
            rintro r w1 ⟨rfl, rfl⟩
            go_wp2
            go_ret
            exact ⟨by simp, hbel⟩
  · by_cases hn0 : n0 = 0
    · have hn1 : ((n1 : Int) == 0) = false := by
        simp
        intro e
        exact hnm ⟨rfl, hn0, e⟩
      have hn0' : ((n0 : Int) == 0) = true := by simp [hn0]
      have HN0 : Hid (n0 = 0) := hn0
      clear hn0 hnm
      go_enter Ybad.func3, Ybad.ntmps3
      have hmk : (Instr.makeMap 24 none).run Ybad.prog w = .ok (.map (some w.heap.size)) (w.alloc (.map #[] 0)) := by simp [Instr.makeMap]
      go_wp2
      clear hmk
      generalize hM : w.heap.size = M at *
      have HM : Hid (w.heap.size = M) := hM
      clear hM
      go_loopw [10, 39] (fun wt i wr => ∃ (k : Nat) (f : ByteArray → Bool), k ≤ n0 ∧ i = .int .i64 k ∧ wt = .bool (held f) ∧ Hid (Run w M k f wr)) (fun _ i _ => n0 - (intOf i).toNat)
      case atStart => exact ⟨0, _, Nat.zero_le _, rfl, rfl, HR⟩
      case round =>
        clear HR
        obtain ⟨k, f, hk, rfl, rfl, HR⟩ := hrel
        by_cases hlt : k < n0
        · exfalso
          have := HN0.out
          omega
        · have i0 : ¬ ((k : Int) < (n0 : Int)) := by omega
          have HRx : Hid (Run w M n0 f wr) := by
            have e : k = n0 := by omega
            rw [← e]; exact HR
          clear HR
          go_wp2
          go_loopw [10, 54] (fun wt i wr => ∃ (k : Nat) (f : ByteArray → Bool), k ≤ n1 ∧ i = .int .i64 k ∧ wt = .bool (held f) ∧ Hid (Run w M (n0 + k) f wr)) (fun _ i _ => n1 - (intOf i).toNat)
          case atStart => exact ⟨0, _, Nat.zero_le _, rfl, rfl, HRx⟩
          case round =>
            clear HRx
            obtain ⟨k, f, hk, rfl, rfl, HR⟩ := hrel
            by_cases hlt : k < n1
            · have i0 : (k : Int) < (n1 : Int) := by omega
              obtain ⟨b, off, z, rfl, cs, hz0, hz1⟩ := HP.out k hlt
              have ds := (HR.out.2.1.cell (lt_cell cs)).trans cs
              clear cs
              go_wp2_with fail
              refine (name_any _ _).mono ?_
              rintro r w2 ⟨s, rfl, hs, rfl⟩
              have HS : Hid (s.size ≤ maxLen) := hs
              clear hs ds
              have HH : Hid (held (fun s' => decide (s' = s) || f s') = (held f || prec s)) := held_put f s
              have key : ∀ (w2 : World) (val : Value), Hid (Run w M (n0 + k) f w2) → ∃ w3, (Instr.mapUpdate 24 (.map (some M)) (.string s) val).run Ybad.prog w2 = .ok () w3 ∧ Run w M (n0 + (k + 1)) (fun s' => decide (s' = s) || f s') w3 := fun w2 val h2 => h2.out.put s HS.out (by omega) val
              have HKY : Hid (∀ (w2 : World) (val : Value), Hid (Run w M (n0 + k) f w2) → ∃ w3, (Instr.mapUpdate 24 (.map (some M)) (.string s) val).run Ybad.prog w2 = .ok () w3 ∧ Run w M (n0 + (k + 1)) (fun s' => decide (s' = s) || f s') w3) := key
              clear key
              cases wv
              · obtain ⟨w3, hrun, hr3⟩ := HKY.out w2 (.slice none 0 0) HR
                have HR3 : Hid (Run w M (n0 + (k + 1)) (fun s' => decide (s' = s) || f s') w3) := hr3
                clear hr3
                go_wp2_with fail
                refine (prec_any s w3).mono ?_
                rintro r w4 ⟨rfl, rfl⟩
                clear hrun
                generalize hpb : prec s = pb at *
                cases pb
                · go_wp2
                  go_roundw
                  case rel => exact ⟨k + 1, _, by omega, by go_num, by rw [HH.out, Bool.or_false], HR3⟩
                  case measure => simp [intOf]; omega
                · go_wp2
                  go_roundw
                  case rel => exact ⟨k + 1, _, by omega, by go_num, by rw [HH.out, Bool.or_true], HR3⟩
                  case measure => simp [intOf]; omega
              · obtain ⟨w3, hrun, hr3⟩ := HKY.out (w2.alloc (.cells #[.string ⟨#[120]⟩] 9)) (.slice (some ⟨w2.heap.size, 0, none⟩) 1 1) (HR.out.alloc _)
                have HR3 : Hid (Run w M (n0 + (k + 1)) (fun s' => decide (s' = s) || f s') w3) := hr3
                clear hr3
                go_wp2_with fail
                refine (prec_any s w3).mono ?_
                rintro r w4 ⟨rfl, rfl⟩
                clear hrun
                generalize hpb : prec s = pb at *
                cases pb
                · go_wp2
                  go_roundw
                  case rel => exact ⟨k + 1, _, by omega, by go_num, by rw [HH.out, Bool.or_false], HR3⟩
                  case measure => simp [intOf]; omega
                · go_wp2
                  go_roundw
                  case rel => exact ⟨k + 1, _, by omega, by go_num, by rw [HH.out, Bool.or_true], HR3⟩
                  case measure => simp [intOf]; omega
            · have i0 : ¬ ((k : Int) < (n1 : Int)) := by omega
              have hbel := HR.out.2.1
              go_wp2_with fail
              refine (has_any (.map (some M)) f wr (HT.out.still HR.out.2.1) (fun s hs => HR.out.1.look s hs)).mono ?_
              rintro r w1 ⟨rfl, rfl⟩
              go_wp2
              go_ret
              exact ⟨by simp, hbel⟩
    · have hn0' : ((n0 : Int) == 0) = false := by simp [hn0]
      go_enter Ybad.func3, Ybad.ntmps3
      have hmk : (Instr.makeMap 24 none).run Ybad.prog w = .ok (.map (some w.heap.size)) (w.alloc (.map #[] 0)) := by simp [Instr.makeMap]
      go_wp2
      clear hmk
      generalize hM : w.heap.size = M at *
      have HM : Hid (w.heap.size = M) := hM
      clear hM
      go_loopw [10, 39] (fun wt i wr => ∃ (k : Nat) (f : ByteArray → Bool), k ≤ n0 ∧ i = .int .i64 k ∧ wt = .bool (held f) ∧ Hid (Run w M k f wr)) (fun _ i _ => n0 - (intOf i).toNat)
      case atStart => exact ⟨0, _, Nat.zero_le _, rfl, rfl, HR⟩
      case round =>
        clear HR
        obtain ⟨k, f, hk, rfl, rfl, HR⟩ := hrel
        by_cases hlt : k < n0
        · have i0 : (k : Int) < (n0 : Int) := by omega
          obtain ⟨b, off, s, rfl, cs, hs⟩ := HK.out k hlt
          have ds := (HR.out.2.1.cell (lt_cell cs)).trans cs
          have HS : Hid (s.size ≤ maxLen) := hs
          clear cs hs
          have HH : Hid (held (fun s' => decide (s' = s) || f s') = (held f || prec s)) := held_put f s
          have key : ∀ (w2 : World) (val : Value), Hid (Run w M k f w2) → ∃ w3, (Instr.mapUpdate 24 (.map (some M)) (.string s) val).run Ybad.prog w2 = .ok () w3 ∧ Run w M (k + 1) (fun s' => decide (s' = s) || f s') w3 := fun w2 val h2 => h2.out.put s HS.out (by omega) val
          have HKY : Hid (∀ (w2 : World) (val : Value), Hid (Run w M k f w2) → ∃ w3, (Instr.mapUpdate 24 (.map (some M)) (.string s) val).run Ybad.prog w2 = .ok () w3 ∧ Run w M (k + 1) (fun s' => decide (s' = s) || f s') w3) := key
          clear key
          cases wv
          · obtain ⟨w3, hrun, hr3⟩ := HKY.out wr (.slice none 0 0) HR
            have HR3 : Hid (Run w M (k + 1) (fun s' => decide (s' = s) || f s') w3) := hr3
            clear hr3
            go_wp2_with fail
            refine (prec_any s w3).mono ?_
            rintro r w4 ⟨rfl, rfl⟩
            clear hrun ds
            generalize hpb : prec s = pb at *
            cases pb
            · go_wp2
              go_roundw
              case rel => exact ⟨k + 1, _, by omega, by go_num, by rw [HH.out, Bool.or_false], HR3⟩
              case measure => simp [intOf]; omega
            · go_wp2
              go_roundw
              case rel => exact ⟨k + 1, _, by omega, by go_num, by rw [HH.out, Bool.or_true], HR3⟩
              case measure => simp [intOf]; omega
          · obtain ⟨w3, hrun, hr3⟩ := HKY.out (wr.alloc (.cells #[.string ⟨#[120]⟩] 9)) (.slice (some ⟨wr.heap.size, 0, none⟩) 1 1) (HR.out.alloc _)
            have HR3 : Hid (Run w M (k + 1) (fun s' => decide (s' = s) || f s') w3) := hr3
            clear hr3
            go_wp2_with fail
            refine (prec_any s w3).mono ?_
            rintro r w4 ⟨rfl, rfl⟩
            clear hrun ds
            generalize hpb : prec s = pb at *
            cases pb
            · go_wp2
              go_roundw
              case rel => exact ⟨k + 1, _, by omega, by go_num, by rw [HH.out, Bool.or_false], HR3⟩
              case measure => simp [intOf]; omega
            · go_wp2
              go_roundw
              case rel => exact ⟨k + 1, _, by omega, by go_num, by rw [HH.out, Bool.or_true], HR3⟩
              case measure => simp [intOf]; omega
        · have i0 : ¬ ((k : Int) < (n0 : Int)) := by omega
          have HRx : Hid (Run w M n0 f wr) := by
            have e : k = n0 := by omega
            rw [← e]; exact HR
          clear HR
          go_wp2
          go_loopw [10, 54] (fun wt i wr => ∃ (k : Nat) (f : ByteArray → Bool), k ≤ n1 ∧ i = .int .i64 k ∧ wt = .bool (held f) ∧ Hid (Run w M (n0 + k) f wr)) (fun _ i _ => n1 - (intOf i).toNat)
          case atStart => exact ⟨0, _, Nat.zero_le _, rfl, rfl, HRx⟩
          case round =>
            clear HRx
            obtain ⟨k, f, hk, rfl, rfl, HR⟩ := hrel
            by_cases hlt : k < n1
            · have i0 : (k : Int) < (n1 : Int) := by omega
              obtain ⟨b, off, z, rfl, cs, hz0, hz1⟩ := HP.out k hlt
              have ds := (HR.out.2.1.cell (lt_cell cs)).trans cs
              clear cs
              go_wp2_with fail
              refine (name_any _ _).mono ?_
              rintro r w2 ⟨s, rfl, hs, rfl⟩
              have HS : Hid (s.size ≤ maxLen) := hs
              clear hs ds
              have HH : Hid (held (fun s' => decide (s' = s) || f s') = (held f || prec s)) := held_put f s
              have key : ∀ (w2 : World) (val : Value), Hid (Run w M (n0 + k) f w2) → ∃ w3, (Instr.mapUpdate 24 (.map (some M)) (.string s) val).run Ybad.prog w2 = .ok () w3 ∧ Run w M (n0 + (k + 1)) (fun s' => decide (s' = s) || f s') w3 := fun w2 val h2 => h2.out.put s HS.out (by omega) val
              have HKY : Hid (∀ (w2 : World) (val : Value), Hid (Run w M (n0 + k) f w2) → ∃ w3, (Instr.mapUpdate 24 (.map (some M)) (.string s) val).run Ybad.prog w2 = .ok () w3 ∧ Run w M (n0 + (k + 1)) (fun s' => decide (s' = s) || f s') w3) := key
              clear key
              cases wv
              · obtain ⟨w3, hrun, hr3⟩ := HKY.out w2 (.slice none 0 0) HR
                have HR3 : Hid (Run w M (n0 + (k + 1)) (fun s' => decide (s' = s) || f s') w3) := hr3
                clear hr3
                go_wp2_with fail
                refine (prec_any s w3).mono ?_
                rintro r w4 ⟨rfl, rfl⟩
                clear hrun
                generalize hpb : prec s = pb at *
                cases pb
                · go_wp2
                  go_roundw
                  case rel => exact ⟨k + 1, _, by omega, by go_num, by rw [HH.out, Bool.or_false], HR3⟩
                  case measure => simp [intOf]; omega
                · go_wp2
                  go_roundw
                  case rel => exact ⟨k + 1, _, by omega, by go_num, by rw [HH.out, Bool.or_true], HR3⟩
                  case measure => simp [intOf]; omega
              · obtain ⟨w3, hrun, hr3⟩ := HKY.out (w2.alloc (.cells #[.string ⟨#[120]⟩] 9)) (.slice (some ⟨w2.heap.size, 0, none⟩) 1 1) (HR.out.alloc _)
                have HR3 : Hid (Run w M (n0 + (k + 1)) (fun s' => decide (s' = s) || f s') w3) := hr3
                clear hr3
                go_wp2_with fail
                refine (prec_any s w3).mono ?_
                rintro r w4 ⟨rfl, rfl⟩
                clear hrun
                generalize hpb : prec s = pb at *
                cases pb
                · go_wp2
                  go_roundw
                  case rel => exact ⟨k + 1, _, by omega, by go_num, by rw [HH.out, Bool.or_false], HR3⟩
                  case measure => simp [intOf]; omega
                · go_wp2
                  go_roundw
                  case rel => exact ⟨k + 1, _, by omega, by go_num, by rw [HH.out, Bool.or_true], HR3⟩
                  case measure => simp [intOf]; omega
            · have i0 : ¬ ((k : Int) < (n1 : Int)) := by omega
              have hbel := HR.out.2.1
              go_wp2_with fail
              refine (has_any (.map (some M)) f wr (HT.out.still HR.out.2.1) (fun s hs => HR.out.1.look s hs)).mono ?_
              rintro r w1 ⟨rfl, rfl⟩
              go_wp2
              go_ret
              exact ⟨by simp, hbel⟩
end Go.Proofs.YbulkbgdkDoor
