/-
  (*budget).handOut: the shares that fit are handed out; the state that the call leaves.
-/
import Derived.Test.YbulkbgciSmall
import Derived.WalkSpells
import Derived.LoopTactic
import Derived.BigQuiet
import Derived.Deep.QuietTactic
namespace Go.Proofs.Ybulkbgci
open Go.RowKit Go.Conc Go.MuLone

/-- What is free behind k shares. -/
def frAt (zs : List Int) (f0 : Int) : Nat → Int
  | 0 => f0
  | k + 1 => wrap64 (frAt zs f0 k - zs.getD k 0)

/-- A world in which one channel has been closed, and nothing else has turned. -/
structure Shut1 (w w' : World) (r : Nat) : Prop where
  os : w'.os = w.os
  tape : w'.tape = w.tape
  output : w'.output = w.output
  size : w'.heap.size = w.heap.size
  chn : w'.heap[r]? = some (.chan 0 #[] true 0 0 false)
  others : ∀ k, k ≠ r → w'.heap[k]? = w.heap[k]?

theorem Shut1.cell {w w' : World} {r : Nat} (h : Shut1 w w' r) {a : Addr} (ha : a.block ≠ r) : w'.cell? a = w.cell? a := World.cell?_of_block (h.others _ ha)
theorem Shut1.frozen {w w' : World} {r : Nat} (h : Shut1 w w' r) {a : Addr} (ha : a.block ≠ r) : w'.frozen? a = w.frozen? a := World.frozen?_of_block (h.others _ ha)

theorem wpList_close1 {P : Program} (w : World) {ops : Array Oper} {rest : List Oper} {o : Oper} {a : Act} {Q : Exit → Act → World → Prop}
    (hg : o.guard = none) (c : Operand) (t : TypeId) (hop : o.op = Op.call { callee := Callee.builtin Builtin.close, args := #[c], argTypes := #[t] })
    (r : Nat) (hc : a.eval c = .chan (some r)) (hr : w.heap[r]? = some (.chan 0 #[] false 0 0 false))
    (hK : ∀ w', Shut1 w w' r → wpList P ops Q rest (a.put o.dst (.tuple #[])) w') :
    wpList P ops Q (o :: rest) a w := by
  refine wpList_plain hg fun K hK' => ?_
  have hrun := run_close_open (P := P) (w := w) #[t] o.type hr
  have hlt : r < w.heap.size := (Array.getElem?_eq_some_iff.1 hr).1
  unfold Oper.wp
  simp [execOp, hop, resolve, invoke, builtin, hc, hrun, Result.andThen]
  refine hK' _ _ (hK _ ⟨rfl, rfl, rfl, by simp, by simp [hlt], fun k hk => ?_⟩)
  simp only
  rw [Array.getElem?_setIfInBounds_ne (by omega)]

/-- The state of the budget and of its shares: k shares have been handed out, f is free. B: the block of 'shares'. -/
structure Hand (B n : Nat) (zs : List Int) (m tot : Int) (k : Nat) (f : Int) (w : World) : Prop where
  size : B + 2 + 2 * n < w.heap.size
  mu : w.cell? ⟨B + 2 + 2 * n, 0, none⟩ = some (.int .i32 m)
  tot : w.cell? ⟨B + 2 + 2 * n, 2, none⟩ = some (.int .i64 tot)
  fre : w.cell? ⟨B + 2 + 2 * n, 3, none⟩ = some (.int .i64 f)
  fz : ∀ j, w.frozen? ⟨B + 2 + 2 * n, j, none⟩ = false
  que : ∃ a, w.cell? ⟨B + 2 + 2 * n, 4, none⟩ = some (.slice (some a) (n - k) (n - k)) ∧ (k < n → a = ⟨B + 1 + 2 * n, k, none⟩)
  row : ∀ i, i < n → w.cell? ⟨B + 1 + 2 * n, i, none⟩ = some (.pointer (some ⟨B + 2 + 2 * i, 0, none⟩))
  ptr : ∀ i, i < n → w.cell? ⟨B, i, none⟩ = some (.pointer (some ⟨B + 2 + 2 * i, 0, none⟩))
  num : ∀ i, i < n → w.cell? ⟨B + 2 + 2 * i, 0, none⟩ = some (.int .i64 (zs.getD i 0))
  chn : ∀ i, i < n → w.cell? ⟨B + 2 + 2 * i, 1, none⟩ = some (.chan (some (B + 1 + 2 * i)))
  chs : ∀ i, i < n → w.heap[B + 1 + 2 * i]? = some (.chan 0 #[] (decide (i < k)) 0 0 false)

/-- The length of the budget's queue. -/
def qLen (w : World) (bb : Nat) : Nat := match w.cell? ⟨bb, 4, none⟩ with | some (.slice _ l _) => l | _ => 0

theorem Hand.qLen {B n : Nat} {zs : List Int} {m tot : Int} {k : Nat} {f : Int} {w : World} (h : Hand B n zs m tot k f w) : qLen w (B + 2 + 2 * n) = n - k := by
  obtain ⟨a, ha, _⟩ := h.que
  simp [Ybulkbgci.qLen, ha]

theorem setCell_ne {w : World} {a b : Addr} {v : Value} (h : a ≠ b) : (w.setCell a v).cell? b = w.cell? b := World.cell?_setCell_other w a b v h

theorem setCell_heap {w : World} {a : Addr} {v : Value} {k : Nat} (h : k ≠ a.block) : (w.setCell a v).heap[k]? = w.heap[k]? := Below.heap_setCell w a v k h

/-- One share handed out. -/
theorem hand_step {B n : Nat} {zs : List Int} {m tot : Int} {k q : Nat} {f v : Int} {wr w' : World} (h : Hand B n zs m tot k f wr) (hk : k < n)
    (hs : Shut1 ((wr.drewN q).setCell ⟨B + 2 + 2 * n, 3, none⟩ (.int .i64 v)) w' (B + 1 + 2 * k)) {a : Addr} (ha : k + 1 < n → a = ⟨B + 1 + 2 * n, k + 1, none⟩) {l : Nat} (hl : l = n - (k + 1)) :
    Hand B n zs m tot (k + 1) v (w'.setCell ⟨B + 2 + 2 * n, 4, none⟩ (.slice (some a) l l)) := by
  have hsz : w'.heap.size = wr.heap.size := by rw [hs.size]; simp [World.setCell, World.drewN]
  -- a cell of another block
  have c : ∀ b o, b ≠ B + 1 + 2 * k → b ≠ B + 2 + 2 * n → (w'.setCell ⟨B + 2 + 2 * n, 4, none⟩ (.slice (some a) l l)).cell? ⟨b, o, none⟩ = wr.cell? ⟨b, o, none⟩ := by
    intro b o h1 h2
    rw [setCell_ne (fun e => h2 (by cases e; rfl)), hs.cell (by simpa using h1), setCell_ne (fun e => h2 (by cases e; rfl))]
    rfl
  -- a cell of the budget
  have c2 : ∀ o, o ≠ 3 → w'.cell? ⟨B + 2 + 2 * n, o, none⟩ = wr.cell? ⟨B + 2 + 2 * n, o, none⟩ := by
    intro o h1
    rw [hs.cell (by simp; omega), setCell_ne (fun e => h1 (by cases e; rfl))]
    rfl
  have c3 : w'.cell? ⟨B + 2 + 2 * n, 3, none⟩ = some (.int .i64 v) := by
    rw [hs.cell (by simp; omega)]
    exact World.cell?_setCell_same _ _ _ (u := .int .i64 f) h.fre
  refine ⟨?_, ?_, ?_, ?_, ?_, ⟨a, ?_, ha⟩, ?_, ?_, ?_, ?_, ?_⟩
  · simp [World.setCell, hsz]; exact h.size
  · rw [setCell_ne (by simp), c2 0 (by omega)]; exact h.mu
  · rw [setCell_ne (by simp), c2 2 (by omega)]; exact h.tot
  · rw [setCell_ne (by simp)]; exact c3
  · intro j
    rw [World.frozen?_setCell, hs.frozen (by simp; omega), World.frozen?_setCell]
    exact h.fz j
  · subst hl
    obtain ⟨a0, h0, _⟩ := h.que
    exact World.cell?_setCell_same _ _ _ ((c2 4 (by omega)).trans h0)
  · intro i hi; rw [c _ _ (by omega) (by omega)]; exact h.row i hi
  · intro i hi; rw [c _ _ (by omega) (by omega)]; exact h.ptr i hi
  · intro i hi; rw [c _ _ (by omega) (by omega)]; exact h.num i hi
  · intro i hi; rw [c _ _ (by omega) (by omega)]; exact h.chn i hi
  · intro i hi
    rw [setCell_heap (by simp; omega)]
    by_cases hik : i = k
    · subst hik
      rw [hs.chn]; simp
    · rw [hs.others _ (by omega), setCell_heap (by simp; omega)]
      have := h.chs i hi
      have e : decide (i < k + 1) = decide (i < k) := by
        by_cases h1 : i < k
        · rw [decide_eq_true h1, decide_eq_true (show i < k + 1 by omega)]
        · rw [decide_eq_false h1, decide_eq_false (show ¬ i < k + 1 by omega)]
      rw [e]
      exact this

theorem below_step {B n k q : Nat} {v : Int} {u : Value} {w wr w' : World} (h : Below B w wr) (hs : Shut1 ((wr.drewN q).setCell ⟨B + 2 + 2 * n, 3, none⟩ (.int .i64 v)) w' (B + 1 + 2 * k)) :
    Below B w (w'.setCell ⟨B + 2 + 2 * n, 4, none⟩ u) := by
  refine Below.setCell ?_ (by simp; omega) u
  refine h.trans ⟨hs.os, hs.tape, hs.output, by rw [hs.size]; simp [World.setCell, World.drewN], fun j hj => ?_⟩
  rw [hs.others j (by omega), setCell_heap (by simp; omega)]
  rfl

theorem Hand.drewN {B n : Nat} {zs : List Int} {m tot : Int} {k : Nat} {f : Int} {w : World} (h : Hand B n zs m tot k f w) (q : Nat) : Hand B n zs m tot k f (w.drewN q) :=
  ⟨h.size, h.mu, h.tot, h.fre, h.fz, h.que, h.row, h.ptr, h.num, h.chn, h.chs⟩
theorem below_drewN {B : Nat} {a w : World} (h : Below B a w) (n : Nat) : Below B a (w.drewN n) := h.trans ⟨rfl, rfl, rfl, Nat.le_refl _, fun _ _ => rfl⟩

set_option maxRecDepth 100000 in
set_option maxHeartbeats 2000000 in
theorem hand_round (B n : Nat) (zs : List Int) (m tot f0 : Int) (w : World) (hn : n ≤ 1024) (h0 : Hand B n zs m tot 0 f0 w) :
    Calls Yba.prog 19 #[.pointer (some ⟨B + 2 + 2 * n, 0, none⟩)] w fun e w' => e = .returned (.tuple #[]) ∧
      ∃ k, k ≤ n ∧ Hand B n zs m tot k (frAt zs f0 k) w' ∧ (∀ j, j < k → zs.getD j 0 ≤ frAt zs f0 j) ∧ ¬ (k < n ∧ zs.getD k 0 ≤ frAt zs f0 k) ∧ Below B w w' := by
  go_enter Yba.func19, Yba.ntmps19
  go_wp2
  go_loopw [2] (fun _ wr => ∃ k, k ≤ n ∧ Hand B n zs m tot k (frAt zs f0 k) wr ∧ (∀ j, j < k → zs.getD j 0 ≤ frAt zs f0 j) ∧ Below B w wr) (fun _ wr => qLen wr (B + 2 + 2 * n))
  case atStart => exact ⟨0, Nat.zero_le _, h0, fun j hj => absurd hj (by omega), Below.refl _ _⟩
  case round =>
    obtain ⟨k, hk, hH, hpre, hnx⟩ := hrel
    by_cases hlt : k < n
    · obtain ⟨a, hq, ha⟩ := hH.que
      have ha' := ha hlt
      subst ha'
      have cfre := hH.fre
      have crow := hH.row k hlt
      have cnum := hH.num k hlt
      have cchn := hH.chn k hlt
      have fz3 := hH.fz 3
      have fz4 := hH.fz 4
      have hfs : Hid (frAt zs f0 (k + 1) = wrap64 (frAt zs f0 k - zs.getD k 0)) := rfl
      have HP : Hid (∀ j, j < k → zs.getD j 0 ≤ frAt zs f0 j) := hpre
      have HH : Hid (Hand B n zs m tot k (frAt zs f0 k) wr) := hH
      have HQ : Hid (Ybulkbgci.qLen wr (B + 2 + 2 * n) = n - k) := hH.qLen
      clear hpre hH h0 ha
      obtain ⟨l, hl⟩ : ∃ l : Nat, l = n - k := ⟨_, rfl⟩
      have HL : Hid (l = n - k) := hl
      rw [← hl] at hq
      have hl0 : (0 : Int) < (l : Int) := by omega
      have hl0' : 0 < l := by omega
      clear hl
      generalize hF : frAt zs f0 k = f at *
      generalize hZ : zs.getD k 0 = z at *
      have HF : Hid (frAt zs f0 k = f) := hF
      have HZ : Hid (zs.getD k 0 = z) := hZ
      clear hF hZ
      by_cases hzf : z ≤ f
      · have HC : Hid (wr.heap[B + 1 + 2 * k]? = some (.chan 0 #[] false 0 0 false)) := by
          have := HH.out.chs k hlt
          rw [decide_eq_false (by omega)] at this
          exact this
        go_wp2
        go_quiet (fail)
        go_wp2
        go_region
        go_wp2_with (refine wpList_close1 _ rfl _ 25 rfl (B + 1 + 2 * k) rfl ?hc ?_)
        case hc =>
          rw [setCell_heap (by simp; omega)]
          exact HC.out
        intro w1 hs
        have HS : Hid (Shut1 ((wr.drewN (nq + 1)).setCell ⟨B + 2 + 2 * n, 3, none⟩ (.int .i64 (wrap64 (f - z)))) w1 (B + 1 + 2 * k)) := hs
        have cq1 : w1.cell? ⟨B + 2 + 2 * n, 4, none⟩ = some (.slice (some ⟨B + 1 + 2 * n, k, none⟩) l l) := by
          rw [hs.cell (by simp; omega), setCell_ne (by simp)]; exact hq
        have fz1 : w1.frozen? ⟨B + 2 + 2 * n, 4, none⟩ = false := by
          rw [hs.frozen (by simp; omega), World.frozen?_setCell]; exact fz4
        clear hs cfre crow cnum cchn fz3 fz4 hq
        go_wp2
        have hq0 : ∃ a', (if l = 1 then some (⟨B + 1 + 2 * n, k, none⟩ : Addr) else some ⟨B + 1 + 2 * n, k + 1, none⟩) = some a' ∧ (k + 1 < n → a' = ⟨B + 1 + 2 * n, k + 1, none⟩) := by
          have := HL.out
          by_cases h1 : l = 1
          · rw [if_pos h1]; exact ⟨_, rfl, fun h => by omega⟩
          · rw [if_neg h1]; exact ⟨_, rfl, fun _ => rfl⟩
        obtain ⟨a', ea, ha'⟩ := hq0
        rw [ea]
        have hst := hand_step HH.out hlt HS.out ha' (l := l - 1) (by have := HL.out; omega)
        go_roundw
        case rel =>
          refine ⟨k + 1, by omega, by rw [hfs.out]; exact hst, fun j hj => ?_, below_step hnx HS.out⟩
          by_cases hjk : j = k
          · subst hjk; rw [HZ.out, HF.out]; exact hzf
          · exact HP.out j (by omega)
        case measure =>
          rw [hst.qLen, HQ.out]; omega
      · have hd : decide (z ≤ f) = false := by simpa using hzf
        go_wp2
        go_quiet (fail)
        go_wp2
        go_end0
        exact ⟨rfl, k, hk, by rw [HF.out]; exact HH.out.drewN _, HP.out, by rw [HZ.out, HF.out]; omega, below_drewN hnx _⟩
    · obtain ⟨a, hq, _⟩ := hH.que
      have hkn : k = n := by omega
      subst hkn
      have HH : Hid (Hand B k zs m tot k (frAt zs f0 k) wr) := hH
      have HP : Hid (∀ j, j < k → zs.getD j 0 ≤ frAt zs f0 j) := hpre
      clear hpre hH h0
      rw [Nat.sub_self] at hq
      go_wp2
      go_quiet (fail)
      go_wp2
      go_end0
      exact ⟨rfl, k, hk, HH.out.drewN _, HP.out, by omega, below_drewN hnx _⟩
end Go.Proofs.Ybulkbgci
