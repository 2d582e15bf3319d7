/-
  The law LawS2855AGive: the walk.
-/
import Derived.Test.YbulkbgciGive
import Derived.Deep.OwnRows
import Derived.Laws.CopyRow
namespace Go.Proofs.Ybulkbgci
open Go.RowKit Go.Conc Go.MuLone

theorem Yba.info24 : (Yba.prog.info? 24).map (fun i => (i.zero, i.size, i.bytes)) = some (some (.pointer none), 1, 8) := by kernel_rfl

/-- The shares made so far: k of n; B: the block of 'shares'. -/
structure Sh (B n : Nat) (zs : List Int) (k : Nat) (w : World) : Prop where
  size : w.heap.size = B + 1 + 2 * k
  blk : ∃ cur, w.heap[B]? = some (.cells cur 24 (0, 0)) ∧ cur.size = n
  ptr : ∀ i, i < k → w.cell? ⟨B, i, none⟩ = some (.pointer (some ⟨B + 2 + 2 * i, 0, none⟩))
  num : ∀ i, i < k → w.cell? ⟨B + 2 + 2 * i, 0, none⟩ = some (.int .i64 (zs.getD i 0))
  chn : ∀ i, i < k → w.cell? ⟨B + 2 + 2 * i, 1, none⟩ = some (.chan (some (B + 1 + 2 * i)))
  chs : ∀ i, i < k → w.heap[B + 1 + 2 * i]? = some (.chan 0 #[] false 0 0 false)

theorem Sh.made (w : World) (n : Nat) (zs : List Int) : Sh w.heap.size n zs 0 (w.alloc (.cells (madeCells #[.pointer none] n) 24)) :=
  ⟨by simp, ⟨_, heap_alloc_new _ _, size_madeCells _ _⟩, fun i h => absurd h (by omega), fun i h => absurd h (by omega), fun i h => absurd h (by omega), fun i h => absurd h (by omega)⟩

theorem cell_blk {w : World} {b j : Nat} {c : Array Value} {t : TypeId} {fr : Nat × Nat} (h : w.heap[b]? = some (.cells c t fr)) : w.cell? ⟨b, j, none⟩ = c[j]? := cell_of_row w b j c t fr h
theorem frozen_blk {w : World} {b j : Nat} {c : Array Value} {t : TypeId} (h : w.heap[b]? = some (.cells c t (0, 0))) : w.frozen? ⟨b, j, none⟩ = false := by
  simp [World.frozen?, h]

theorem Sh.slot {B n : Nat} {zs : List Int} {k : Nat} {w : World} (h : Sh B n zs k w) (hk : k < n) : (∃ u, w.cell? ⟨B, k, none⟩ = some u) ∧ w.frozen? ⟨B, k, none⟩ = false := by
  obtain ⟨cur, hc, hs⟩ := h.blk
  exact ⟨⟨cur[k]'(by omega), by rw [cell_blk hc, Array.getElem?_eq_getElem]⟩, frozen_blk hc⟩

/-- One share made. -/
theorem sh_step {B n : Nat} {zs : List Int} {k : Nat} {wr : World} {z : Int} (h : Sh B n zs k wr) (hk : k < n) (hz : z = zs.getD k 0) :
    Sh B n zs (k + 1) (((wr.setCell ⟨B, k, none⟩ (.pointer (some ⟨wr.heap.size + 1, 0, none⟩))).alloc (.chan 0 #[] false 0 0 false)).alloc (.cells #[.int .i64 z, .chan (some wr.heap.size)] 27)).drew := by
  obtain ⟨cur, hc, hs⟩ := h.blk
  have hsz := h.size
  have hs1 : (wr.setCell ⟨B, k, none⟩ (.pointer (some ⟨wr.heap.size + 1, 0, none⟩))).heap.size = wr.heap.size := by simp [World.setCell]
  have hs2 : ((wr.setCell ⟨B, k, none⟩ (.pointer (some ⟨wr.heap.size + 1, 0, none⟩))).alloc (.chan 0 #[] false 0 0 false)).heap.size = wr.heap.size + 1 := by rw [World.size_alloc, hs1]
  generalize hW1 : wr.setCell ⟨B, k, none⟩ (.pointer (some ⟨wr.heap.size + 1, 0, none⟩)) = W1 at *
  have o1 : ∀ j, j ≠ B → W1.heap[j]? = wr.heap[j]? := fun j hj => by rw [← hW1]; exact setCell_heap (by simpa using hj)
  have b1 : W1.heap[B]? = some (.cells (cur.setIfInBounds k (.pointer (some ⟨wr.heap.size + 1, 0, none⟩))) 24 (0, 0)) := by rw [← hW1]; exact heap_setCell_same wr B k cur 24 _ hc
  clear hW1
  generalize hW2 : W1.alloc (.chan 0 #[] false 0 0 false) = W2 at *
  have o2 : ∀ j, j < wr.heap.size → W2.heap[j]? = W1.heap[j]? := fun j hj => by rw [← hW2]; exact Below.heap_alloc _ _ _ (by omega)
  have b2 : W2.heap[wr.heap.size]? = some (.chan 0 #[] false 0 0 false) := by rw [← hW2, ← hs1]; exact heap_alloc_new _ _
  clear hW2
  have hs3 : (W2.alloc (.cells #[.int .i64 z, .chan (some wr.heap.size)] 27)).drew.heap.size = wr.heap.size + 2 := by
    show (W2.alloc _).heap.size = _
    rw [World.size_alloc, hs2]
  generalize hW3 : (W2.alloc (.cells #[.int .i64 z, .chan (some wr.heap.size)] 27)).drew = W3 at *
  have o3 : ∀ j, j < wr.heap.size + 1 → W3.heap[j]? = W2.heap[j]? := fun j hj => by rw [← hW3]; exact Below.heap_alloc _ _ _ (by omega)
  have b3 : W3.heap[wr.heap.size + 1]? = some (.cells #[.int .i64 z, .chan (some wr.heap.size)] 27 (0, 0)) := by rw [← hW3, ← hs2]; exact heap_alloc_new _ _
  clear hW3
  have o : ∀ j, j ≠ B → j < wr.heap.size → W3.heap[j]? = wr.heap[j]? := fun j h1 h2 => by rw [o3 j (by omega), o2 j h2, o1 j h1]
  have bB : W3.heap[B]? = some (.cells (cur.setIfInBounds k (.pointer (some ⟨wr.heap.size + 1, 0, none⟩))) 24 (0, 0)) := by rw [o3 B (by omega), o2 B (by omega), b1]
  have bc : W3.heap[wr.heap.size]? = some (.chan 0 #[] false 0 0 false) := by rw [o3 _ (by omega), b2]
  refine ⟨by omega, ⟨_, bB, by simpa using hs⟩, fun i hi => ?_, fun i hi => ?_, fun i hi => ?_, fun i hi => ?_⟩
  · rw [cell_blk bB]
    by_cases hik : i = k
    · subst hik
      rw [show B + 2 + 2 * i = wr.heap.size + 1 by omega, Array.getElem?_setIfInBounds_self_of_lt (by omega)]
    · rw [Array.getElem?_setIfInBounds_ne (by omega), ← cell_blk hc]
      exact h.ptr i (by omega)
  · by_cases hik : i = k
    · subst hik
      rw [show B + 2 + 2 * i = wr.heap.size + 1 by omega, cell_blk b3, hz]; rfl
    · rw [World.cell?_of_block (w := wr) (o _ (by simp; omega) (by simp; omega))]
      exact h.num i (by omega)
  · by_cases hik : i = k
    · subst hik
      rw [show B + 2 + 2 * i = wr.heap.size + 1 by omega, cell_blk b3, show B + 1 + 2 * i = wr.heap.size by omega]; rfl
    · rw [World.cell?_of_block (w := wr) (o _ (by simp; omega) (by simp; omega))]
      exact h.chn i (by omega)
  · by_cases hik : i = k
    · subst hik
      rw [show B + 1 + 2 * i = wr.heap.size by omega, bc]
    · rw [o _ (by omega) (by omega)]
      exact h.chs i (by omega)

/-- 'copy(q, shares)': a whole row over a whole row. -/
structure Copied (w w' : World) (g : Nat) (cs : List Value) (t : TypeId) : Prop where
  os : w'.os = w.os
  tape : w'.tape = w.tape
  output : w'.output = w.output
  size : w'.heap.size = w.heap.size
  blk : w'.heap[g]? = some (.cells cs.toArray t (0, 0))
  others : ∀ k, k ≠ g → w'.heap[k]? = w.heap[k]?

theorem wpList_copy_whole {P : Program} {w : World} {ops : Array Oper} {rest : List Oper} {o : Oper} {a : Act} {Q : Exit → Act → World → Prop} (hgd : o.guard = none) (d s : Operand) (dT sT : TypeId)
    (ho : o.op = .call { callee := .builtin .copy, args := #[d, s], argTypes := #[dT, sT] }) (elem : TypeId) (hu : P.underlying dT = some (.slice elem)) (hsz : (P.info? elem).map (·.size) = some 1)
    (g n : Nat) (ad : Addr) (hd : a.eval d = .slice (some ⟨g, 0, none⟩) n n) (hs : a.eval s = .slice (some ad) n n)
    (cur : Array Value) (t : TypeId) (hg : w.heap[g]? = some (.cells cur t (0, 0))) (hcur : cur.size = n) (cs : List Value) (hn : cs.length = n)
    (hsrc : ∀ j v, cs[j]? = some v → w.cell? (ad.add j) = some v) (h1 : ∀ v ∈ cs, v.oneCell' = true)
    (hK : ∀ w', Copied w w' g cs t → wpList P ops Q rest (a.put o.dst (goInt n)) w') : wpList P ops Q (o :: rest) a w := by
  refine wpList_plain hgd fun K hK' => ?_
  have hrun := run_copy_row (P := P) w dT sT o.type elem g 0 n n ad n n cur t cs hu hsz hg (by simp [hn]) hsrc (by omega) h1
  have hlen : cur.toList.drop (0 + cs.length) = [] := by rw [List.drop_of_length_le (by simp; omega)]
  rw [hlen, List.take_zero, List.nil_append, List.append_nil, hn] at hrun
  unfold Oper.wp
  simp [execOp, ho, resolve, invoke, builtin, hd, hs, hrun, Result.andThen]
  exact hK' _ _ (hK _ ⟨rfl, rfl, rfl, by simp, setRow_heap w g cur cs.toArray t (0, 0) hg, fun k hk => setRow_other w g k _ hk⟩)

/-- The pointers to the shares. -/
def ptrs (B n : Nat) : List Value := (List.range n).map fun i => .pointer (some ⟨B + 2 + 2 * i, 0, none⟩)
theorem ptrs_length (B n : Nat) : (ptrs B n).length = n := by simp [ptrs]
theorem ptrs_one (B n : Nat) : ∀ v ∈ ptrs B n, v.oneCell' = true := by
  intro v hv
  simp only [ptrs, List.mem_map] at hv
  obtain ⟨i, _, rfl⟩ := hv
  rfl
theorem ptrs_at (B n j : Nat) (h : j < n) : (ptrs B n)[j]? = some (.pointer (some ⟨B + 2 + 2 * j, 0, none⟩)) := by simp [ptrs, h]

theorem add0 (b j : Nat) : (⟨b, 0, none⟩ : Addr).add j = ⟨b, j, none⟩ := by unfold Addr.add; split <;> simp_all

/-- All shares made, and the queue's row made. -/
structure Made (B n : Nat) (zs : List Int) (wr w : World) : Prop where
  size : w.heap.size = B + 2 + 2 * n
  blk : w.heap[B + 1 + 2 * n]? = some (.cells (madeCells #[.pointer none] n) 24 (0, 0))
  old : ∀ j, j < B + 1 + 2 * n → w.heap[j]? = wr.heap[j]?
  sh : Sh B n zs n wr

theorem Made.mk' {B n : Nat} {zs : List Int} {wr : World} (h : Sh B n zs n wr) : Made B n zs wr (wr.alloc (.cells (madeCells #[.pointer none] n) 24)) :=
  ⟨by rw [World.size_alloc, h.size]; omega, by rw [← h.size]; exact heap_alloc_new _ _, fun j hj => Below.heap_alloc _ _ _ (by rw [h.size]; exact hj), h⟩

theorem Made.src {B n : Nat} {zs : List Int} {wr w : World} (h : Made B n zs wr w) : ∀ j v, (ptrs B n)[j]? = some v → w.cell? ((⟨B, 0, none⟩ : Addr).add j) = some v := by
  intro j v hj
  have hjn : j < n := by
    have := (List.getElem?_eq_some_iff.1 hj).1
    rwa [ptrs_length] at this
  rw [ptrs_at B n j hjn] at hj
  rw [add0, World.cell?_of_block (w := wr) (h.old _ (by simp; omega)), h.sh.ptr j hjn, hj]

theorem hand_start {B n : Nat} {zs : List Int} {tot fr : Int} {w wr w2 w3 : World} (hM : Made B n zs wr w2) (hB : Below B w w2) (hC : Copied w2 w3 (B + 1 + 2 * n) (ptrs B n) 24) :
    Hand B n zs 0 tot 0 fr (w3.alloc (.cells #[.int .i32 0, .int .u32 0, .int .i64 tot, .int .i64 fr, .slice (some ⟨B + 1 + 2 * n, 0, none⟩) n n] 37)) ∧
      Below B w (w3.alloc (.cells #[.int .i32 0, .int .u32 0, .int .i64 tot, .int .i64 fr, .slice (some ⟨B + 1 + 2 * n, 0, none⟩) n n] 37)) := by
  have hsz3 : w3.heap.size = B + 2 + 2 * n := by rw [hC.size]; exact hM.size
  have hB3 : Below B w w3 := hB.trans ⟨hC.os, hC.tape, hC.output, by rw [hC.size]; exact Nat.le_refl _, fun j hj => hC.others j (by omega)⟩
  refine ⟨?_, hB3.alloc (by omega) _⟩
  have hs4 : (w3.alloc (.cells #[.int .i32 0, .int .u32 0, .int .i64 tot, .int .i64 fr, .slice (some ⟨B + 1 + 2 * n, 0, none⟩) n n] 37)).heap.size = B + 3 + 2 * n := by rw [World.size_alloc, hsz3]; omega
  generalize hW : w3.alloc (.cells #[.int .i32 0, .int .u32 0, .int .i64 tot, .int .i64 fr, .slice (some ⟨B + 1 + 2 * n, 0, none⟩) n n] 37) = W at *
  have bb : W.heap[B + 2 + 2 * n]? = some (.cells #[.int .i32 0, .int .u32 0, .int .i64 tot, .int .i64 fr, .slice (some ⟨B + 1 + 2 * n, 0, none⟩) n n] 37 (0, 0)) := by rw [← hW, ← hsz3]; exact heap_alloc_new _ _
  have o : ∀ j, j < B + 2 + 2 * n → W.heap[j]? = w3.heap[j]? := fun j hj => by rw [← hW]; exact Below.heap_alloc _ _ _ (by omega)
  have o2 : ∀ j, j < B + 1 + 2 * n → W.heap[j]? = wr.heap[j]? := fun j hj => by rw [o j (by omega), hC.others j (by omega), hM.old j hj]
  have bq : W.heap[B + 1 + 2 * n]? = some (.cells (ptrs B n).toArray 24 (0, 0)) := by rw [o _ (by omega), hC.blk]
  clear hW
  refine ⟨by omega, by rw [cell_blk bb]; rfl, by rw [cell_blk bb]; rfl, by rw [cell_blk bb]; rfl, fun j => frozen_blk bb, ⟨_, by rw [cell_blk bb]; rfl, fun _ => rfl⟩, ?_, ?_, ?_, ?_, ?_⟩
  · intro i hi
    rw [cell_blk bq, List.getElem?_toArray, ptrs_at B n i hi]
  · intro i hi; rw [World.cell?_of_block (w := wr) (o2 _ (by simp; omega))]; exact hM.sh.ptr i hi
  · intro i hi; rw [World.cell?_of_block (w := wr) (o2 _ (by simp; omega))]; exact hM.sh.num i hi
  · intro i hi; rw [World.cell?_of_block (w := wr) (o2 _ (by simp; omega))]; exact hM.sh.chn i hi
  · intro i hi; rw [o2 _ (by omega), hM.sh.chs i hi]; simp

theorem stop_unique {n : Nat} {z g : Nat → Int} {j K : Nat} (h1 : ∀ i, i < j → z i ≤ g i) (hj : j ≤ n) (h2 : ¬ (j < n ∧ z j ≤ g j)) (k1 : ∀ i, i < K → z i ≤ g i) (hK : K ≤ n) (k2 : ¬ (K < n ∧ z K ≤ g K)) : j = K := by
  rcases Nat.lt_trichotomy j K with h | h | h
  · exact absurd ⟨by omega, k1 j h⟩ h2
  · exact h
  · exact absurd ⟨by omega, h1 K h⟩ k2

/-- A pointer to a share is itself. -/
theorem neq_same (a : Addr) (w : World) : (binOp .neq 24 (.pointer (some a)) (.pointer (some a))).run Yba.prog w = .ok (.bool false) w := by
  have h : ∀ d : Nat, (Op.equalIn (d + 1) 24 (.pointer (some a)) (.pointer (some a))).run Yba.prog w = .ok true w := fun d => by
    have hs := Yba.sizeOf27 w
    simp [Op.equalIn, run_underlying Yba.underlying24, hs, sameAddr]
  simp only [binOp]
  simp [Op.equal, Op.maxDepth, h 9999]

set_option maxRecDepth 100000 in
set_option maxHeartbeats 4000000 in
theorem give_row (a3 : Option Addr) (n cap : Nat) (zs : List Int) (fr tot x : Int) (w : World) (hn : n ≤ 1024)
    (hc : ∀ j, j < n → ∃ b off, a3 = some ⟨b, off, none⟩ ∧ b < w.heap.size ∧ w.cell? ⟨b, off + j, none⟩ = some (.int .i64 (zs.getD j 0))) :
    Calls Yba.prog 3 #[.int .i64 fr, .int .i64 tot, .int .i64 x, .slice a3 n cap] w fun e w' => e = .returned (.bool true) ∧ Below w.heap.size w w' := by
  have hmk := run_make_row' (P := Yba.prog) 23 24 (.pointer none) 8 Yba.underlying23 Yba.info24 rfl .i64 .i64 n (by omega) (by omega) w
  have hS0 := Sh.made w n zs
  have hB0 : Below w.heap.size w (w.alloc (.cells (madeCells #[.pointer none] n) 24)) := (Below.refl _ _).alloc (Nat.le_refl _) _
  generalize (w.alloc (.cells (madeCells #[.pointer none] n) 24)) = w0 at *
  have HS0 : Hid (Sh w.heap.size n zs 0 w0 ∧ Below w.heap.size w w0) := ⟨hS0, hB0⟩
  clear hS0 hB0
  have hn' : (n : Int) ≤ 1024 := by omega
  go_enter Yba.func3, Yba.ntmps3
  go_wp2
  go_loopw [10] (fun i wr => ∃ k : Nat, k ≤ n ∧ i = .int .i64 k ∧ Sh w.heap.size n zs k wr ∧ Below w.heap.size w wr) (fun i _ => n - (intOf i).toNat)
  case atStart => exact ⟨0, Nat.zero_le _, rfl, HS0.out.1, HS0.out.2⟩
  case round =>
    clear HS0 hmk
    obtain ⟨k, hk, rfl, hS, hnx⟩ := hrel
    have HS : Hid (Sh w.heap.size n zs k wr) := hS
    by_cases hlt : k < n
    · obtain ⟨b, off, rfl, hb, hcb⟩ := hc k hlt
      have hcell : wr.cell? ⟨b, off + k, none⟩ = some (.int .i64 (zs.getD k 0)) := (hnx.cell (by exact hb)).trans hcb
      have hmc := mk0
      obtain ⟨⟨u, hu⟩, hfz⟩ := hS.slot hlt
      have hne : ¬ b = w.heap.size := by omega
      have hsz := hS.size
      have q1 : b < wr.heap.size := by omega
      have q2 : b < wr.heap.size + 1 := by omega
      have q3 : w.heap.size < wr.heap.size := by omega
      have q4 : w.heap.size < wr.heap.size + 1 := by omega
      clear hsz
      clear hc hcb hS
      have hk1 : (k : Int) < (n : Int) := by omega
      go_wp2
      go_region
      go_wp2
      go_roundw
      case rel =>
        exact ⟨k + 1, by omega, by go_num, sh_step HS.out hlt rfl, (((hnx.setCell (by exact Nat.le_refl _) _).alloc (by simp [World.setCell]; omega) _).alloc (by simp [World.setCell]; omega) _).drew⟩
      case measure => simp [intOf]; omega
    · have hkn : k = n := by omega
      subst hkn
      have hsz := hS.size
      have hmk2 := run_make_row' (P := Yba.prog) 23 24 (.pointer none) 8 Yba.underlying23 Yba.info24 rfl .i64 .i64 k (by omega) (by omega) wr
      have hM : Made w.heap.size k zs wr (wr.alloc (.cells (madeCells #[.pointer none] k) 24)) := Made.mk' hS
      have hB2 : Below w.heap.size w (wr.alloc (.cells (madeCells #[.pointer none] k) 24)) := hnx.alloc hnx.size _
      generalize (wr.alloc (.cells (madeCells #[.pointer none] k) 24)) = w2 at *
      rw [hsz] at hmk2
      have HM : Hid (Made w.heap.size k zs wr w2 ∧ Below w.heap.size w w2) := ⟨hM, hB2⟩
      clear hS hsz hnx hM hB2
      go_wp2_with (refine wpList_copy_whole rfl _ _ 23 23 rfl 24 Yba.underlying23 (by kernel_rfl) (w.heap.size + 1 + 2 * k) k ⟨w.heap.size, 0, none⟩ rfl rfl _ 24 HM.out.1.blk (size_madeCells _ _) (ptrs w.heap.size k) (ptrs_length _ _) HM.out.1.src (ptrs_one _ _) ?_)
      intro w3 hC
      have hsz3 : w3.heap.size = w.heap.size + 2 + 2 * k := by rw [hC.size]; exact HM.out.1.size
      have HH : Hid (Hand w.heap.size k zs 0 tot 0 fr (w3.alloc (.cells #[.int .i32 0, .int .u32 0, .int .i64 tot, .int .i64 fr, .slice (some ⟨w.heap.size + 1 + 2 * k, 0, none⟩) k k] 37)) ∧
          Below w.heap.size w (w3.alloc (.cells #[.int .i32 0, .int .u32 0, .int .i64 tot, .int .i64 fr, .slice (some ⟨w.heap.size + 1 + 2 * k, 0, none⟩) k k] 37))) := hand_start HM.out.1 HM.out.2 hC
      clear hC HM hmk2
      go_wp2_with (go_at_call 6; refine (give_any w.heap.size k zs tot fr x _ hn HH.out.1).mono ?_)
      rintro e w4 ⟨rfl, K, hK, hH, hpre, hstop, hbel⟩
      have HE : Hid (Hand w.heap.size k zs 0 tot K (frAt zs (wrap64 (fr + x)) K) w4 ∧ (∀ j, j < K → zs.getD j 0 ≤ frAt zs (wrap64 (fr + x)) j) ∧ ¬ (K < k ∧ zs.getD K 0 ≤ frAt zs (wrap64 (fr + x)) K) ∧ Below w.heap.size w w4) := ⟨hH, hpre, hstop, HH.out.2.trans hbel⟩
      clear hH hpre hstop hbel HH hsz3 HS hlt hk
      go_wp2
      go_loop [13, 14] (fun f kk => ∃ j : Nat, j ≤ k ∧ kk = .int .i64 j ∧ f = .int .i64 (frAt zs (wrap64 (fr + x)) j) ∧ Hid (∀ i, i < j → zs.getD i 0 ≤ frAt zs (wrap64 (fr + x)) i)) (fun _ kk => k - (intOf kk).toNat)
      case atStart => exact ⟨0, Nat.zero_le _, rfl, rfl, fun i hi => absurd hi (by omega)⟩
      case round =>
        obtain ⟨j, hj, rfl, rfl, HP⟩ := hrel
        by_cases hgo : j < k ∧ zs.getD j 0 ≤ frAt zs (wrap64 (fr + x)) j
        · obtain ⟨hjk, hle⟩ := hgo
          obtain ⟨b, off, rfl, hb, hcb⟩ := hc j hjk
          have hcell : w4.cell? ⟨b, off + j, none⟩ = some (.int .i64 (zs.getD j 0)) := (HE.out.2.2.2.cell (by exact hb)).trans hcb
          have HFS : Hid (frAt zs (wrap64 (fr + x)) (j + 1) = wrap64 (frAt zs (wrap64 (fr + x)) j - zs.getD j 0)) := rfl
          have HP' : Hid (∀ i, i < j + 1 → zs.getD i 0 ≤ frAt zs (wrap64 (fr + x)) i) := by
            intro i hi
            by_cases h : i = j
            · subst h; exact hle
            · exact HP.out i (by omega)
          clear HP HE hc hcb
          generalize frAt zs (wrap64 (fr + x)) j = f at *
          generalize zs.getD j 0 = z at *
          go_wp2
          go_round
          case rel => exact ⟨j + 1, by omega, by go_num, by rw [HFS.out], HP'⟩
          case measure => simp [intOf]; omega
        · have hjK : j = K := stop_unique HP.out hj hgo HE.out.2.1 hK HE.out.2.2.1
          subst hjK
          clear HP
          have cfre := HE.out.1.fre
          have ctot := HE.out.1.tot
          obtain ⟨a, cq, ha⟩ := HE.out.1.que
          have HA : Hid (j < k → a = ⟨w.heap.size + 1 + 2 * k, j, none⟩) := ha
          clear ha
          generalize hl : k - j = l at cq
          have hneq : ((l : Int) != (k : Int) - (j : Int)) = false := by simp; omega
          have hll : (l : Int) + j ≤ k := by omega
          have hll2 : (k : Int) ≤ l + j := by omega
          have HL : Hid (k - j = l) := hl
          have hcell : j < k → ∃ b off, a3 = some ⟨b, off, none⟩ ∧ w4.cell? ⟨b, off + j, none⟩ = some (.int .i64 (zs.getD j 0)) := fun h => by
            obtain ⟨b, off, e, hb, hcb⟩ := hc j h
            exact ⟨b, off, e, (HE.out.2.2.2.cell (by exact hb)).trans hcb⟩
          clear hl hc
          generalize frAt zs (wrap64 (fr + x)) j = f at *
          generalize zs.getD j 0 = z at *
          by_cases hjk : j < k
          all_goals (
            try (have hzf : ¬ z ≤ f := fun h => hgo ⟨hjk, h⟩)
            try (have hcell0 := hcell hjk; obtain ⟨b, off, rfl, hcell1⟩ := hcell0)
            clear hgo hcell)
          all_goals go_wp2
          all_goals
            go_loopw [15] (fun i wr => ∃ t q : Nat, t ≤ l ∧ i = .int .i64 t ∧ wr = w4.drewN q) (fun i _ => l - (intOf i).toNat)
            case atStart => exact ⟨0, 0, Nat.zero_le _, rfl, rfl⟩
            case round =>
              obtain ⟨t, q, ht, rfl, rfl⟩ := hrel
              by_cases htl : t < l
              · try (exfalso; omega)
                all_goals
                  have hjk' : j < k := by omega
                  have cq1 : w4.cell? ⟨w.heap.size + 2 + 2 * k, 4, none⟩ = some (.slice (some ⟨w.heap.size + 1 + 2 * k, j, none⟩) l l) := by rw [← HA.out hjk']; exact cq
                  have crow := HE.out.1.row (j + t) (by omega)
                  have cptr := HE.out.1.ptr (j + t) (by omega)
                  have i1 : (t : Int) < (l : Int) := by omega
                  have i2 : (j : Int) + (t : Int) < (k : Int) := by omega
                  have i3 : (0 : Int) ≤ (j : Int) + (t : Int) := by omega
                  have i4 : j + t < k := by omega
                  clear cq cfre ctot HA HE
                  have hnq := neq_same
                  go_wp2
                  go_quiet (fail)
                  go_wp2
                  go_roundw
                  case rel => exact ⟨t + 1, _, by omega, by go_num, rfl⟩
                  case measure => simp [intOf]; omega
              · clear HA cfre ctot
                go_wp2
                go_loop [16] (fun i => ∃ s : Nat, s ≤ k ∧ i = .int .i64 s) (fun i => k - (intOf i).toNat)
                case atStart => exact ⟨0, Nat.zero_le _, rfl⟩
                case round =>
                  obtain ⟨s, hs, rfl⟩ := hrel
                  by_cases hsk : s < k
                  · have cptr := HE.out.1.ptr s hsk
                    have cchn := HE.out.1.chn s hsk
                    have cnum := HE.out.1.num s hsk
                    have HC : Hid ((w4.drewN q).heap[w.heap.size + 1 + 2 * s]? = some (.chan 0 #[] (decide (s < j)) 0 0 false)) := HE.out.1.chs s hsk
                    by_cases hsj : s < j
                    · rw [decide_eq_true hsj] at HC
                      clear cq HE
                      go_wp2_with (go_at_call 7; refine (closed_yes _ (w4.drewN q) HC.out).mono ?_; rintro e w' ⟨rfl, rfl⟩)
                      go_round
                      case rel => exact ⟨s + 1, by omega, by go_num⟩
                      case measure => simp [intOf]; omega
                    · try (exfalso; omega)
                      all_goals
                        rw [decide_eq_false hsj] at HC
                        clear cq HE
                        go_wp2_with (go_at_call 7; refine (closed_no _ (w4.drewN q) HC.out).mono ?_; rintro e w' ⟨rfl, rfl⟩)
                        go_round
                        case rel => exact ⟨s + 1, by omega, by go_num⟩
                        case measure => simp [intOf]; omega
                  · have cmu := HE.out.1.mu
                    have cfz := HE.out.1.fz 0
                    have hmu1 : ((w4.drewN q).setCell ⟨w.heap.size + 2 + 2 * k, 0, none⟩ (.int .i32 1)).cell? ⟨w.heap.size + 2 + 2 * k, 0, none⟩ = some (.int .i32 1) := World.cell?_setCell_same _ _ _ (u := .int .i32 0) cmu
                    have hfz1 : ((w4.drewN q).setCell ⟨w.heap.size + 2 + 2 * k, 0, none⟩ (.int .i32 1)).frozen? ⟨w.heap.size + 2 + 2 * k, 0, none⟩ = false := by rw [World.frozen?_setCell]; exact cfz
                    have HB : Hid (Below w.heap.size w w4) := HE.out.2.2.2
                    clear cq HE
                    go_wp2_with (go_at_call 8; refine (trylock_free ⟨w.heap.size + 2 + 2 * k, 0, none⟩ (w4.drewN q) cmu cfz).mono ?_; rintro e w' ⟨rfl, rfl⟩)
                    refine (unlock_held Yba.muLib ⟨w.heap.size + 2 + 2 * k, 0, none⟩ _ hmu1 hfz1).mono ?_
                    rintro e w' ⟨rfl, rfl⟩
                    go_wp2
                    go_ret
                    exact ⟨rfl, ((below_drewN HB.out q).setCell (by simp; omega) _).setCell (by simp; omega) _⟩

set_option maxHeartbeats 1000000 in
/-- More than 1024 sizes. -/
theorem give_long (a3 : Option Addr) (n cap : Nat) (fr tot x : Int) (w : World) (h : 1024 < n) :
    Calls Yba.prog 3 #[.int .i64 fr, .int .i64 tot, .int .i64 x, .slice a3 n cap] w fun e w' => e = .returned (.bool true) ∧ Below w.heap.size w w' := by
  have h' : (1024 : Int) < (n : Int) := by omega
  go_enter Yba.func3, Yba.ntmps3
  go_wp2
  go_ret
  exact ⟨rfl, Below.refl _ _⟩
end Go.Proofs.Ybulkbgci
