import Derived.Test.YbulkbgbgBase
import Derived.OwnWalk
import Derived.Laws.IdiomStrings
import Derived.LoopN
import Derived.Maps.AppendAt
namespace Go.Proofs.Ybulkbgbg
open Go.RowKit

theorem Yba.info5 : (Yba.prog.info? 5).map (fun i => (i.zero, i.size, i.bytes)) = some (some (.int .u8 0), 1, 1) := by kernel_rfl

/-- The law's table of characters: the first fourteen are allowed. -/
def tabB : ByteArray := ⟨#[97, 122, 65, 90, 48, 57, 109, 53, 81, 95, 45, 32, 124, 44, 46, 42, 40, 9, 94, 36, 43, 195, 169]⟩

theorem list_said (s : ByteArray) (w : World) (v : Bool) (h : okL s.data.toList = v) :
    Calls Yba.prog 6 #[.string s] w fun e w' => e = .returned (.bool v) ∧ ∃ pos, w' = w.iter s pos := by
  subst h; exact list_any s w

theorem tab_size : tabB.size = 23 := rfl

theorem tab_ok_fin : ∀ q : Fin 23, okI ((tabB[q.val]'(by rw [tab_size]; exact q.isLt)).toNat : Int) = decide (q.val < 14) := by decide +kernel

theorem tab_ok (q : Nat) (h : q < tabB.size) : okI ((tabB[q]'h).toNat : Int) = decide (q < 14) := tab_ok_fin ⟨q, by rw [tab_size] at h; exact h⟩

theorem okL_tab (bs : List UInt8) (q : Nat) (h : q < tabB.size) : okL (bs ++ [tabB[q]'h]) = (okL bs && decide (q < 14)) := by
  rw [okL_snoc, tab_ok]

theorem ba_data (bs : List UInt8) : (⟨bs.toArray⟩ : ByteArray).data.toList = bs := by simp

/-- 'string(buf)' of the row that the call owns. -/
theorem conv_own (bs : List UInt8) (n cap g base : Nat) (wr : World) (hn : bs.length = n)
    (hown : wr.ownsRow base 5 1 (.slice (some ⟨g, 0, none⟩) n cap) n ((bs.map (fun b => (b.toNat : Int))).map (Value.int .u8))) :
    (convert 24 9 (.slice (some ⟨g, 0, none⟩) n cap)).run Yba.prog wr = .ok (.string ⟨bs.toArray⟩) wr := by
  subst hn
  refine run_convert_bytes_back wr 24 9 5 ⟨g, 0, none⟩ cap bs Yba.underlying24 Yba.underlying5 Yba.underlying9 ?_
  intro j hj
  have h := hown.cellAt j (by omega)
  have ha : (⟨g, 0, none⟩ : Addr).add j = ⟨g, j, none⟩ := by unfold Addr.add; split <;> simp_all
  rw [ha, h]
  simp [List.getElem?_eq_getElem hj]

theorem below_iter {B : Nat} {w wr : World} (h : Below B w wr) (hB : B ≤ wr.heap.size) (s : ByteArray) (pos : Nat) : Below B w (wr.iter s pos) := h.alloc hB _

set_option maxRecDepth 1000000 in
set_option maxHeartbeats 2000000 in
theorem built_row (b off len cap : Nat) (zs : List Int) (w : World) (h1024 : len ≤ 1024) (hz : len ≤ zs.length) (hb : b < w.heap.size)
    (hc : ∀ j, j < zs.length → w.cell? ⟨b, off + j, none⟩ = some (.int .u8 (zs.getD j 0))) (hr : ∀ j, 0 ≤ zs.getD j 0 ∧ zs.getD j 0 ≤ 255) :
    Calls Yba.prog 4 #[.slice (some ⟨b, off, none⟩) len cap] w fun e w' => e = .returned (.bool true) ∧ Below w.heap.size w w' := by
  obtain ⟨i0, hi, hz0, hz1, hz2⟩ := info_parts Yba.info5
  go_enter Yba.func4, Yba.ntmps4
  go_wp2_with (at_make; refine wpList_make_own _ rfl _ _ 24 rfl w.heap.size 5 i0 (.int .u8 0) 1 Yba.underlying24 hi hz0 hz1 _ _ _ len rfl rfl (by omega) ?b2 ?b3 (Nat.le_refl _) ?_)
  case b2 => rw [hz2]; omega
  case b3 => unfold maxLen; omega
  intro w0 hown0 hgrow0
  go_wp2
  go_loopw [3, 4, 16] (fun buf want i wr => ∃ (k : Nat) (bs : List UInt8), k ≤ len ∧ bs.length = k ∧ i = .int .i64 k ∧ buf = .slice (some ⟨w.heap.size, 0, none⟩) k len ∧
      wr.ownsRow w.heap.size 5 1 (.slice (some ⟨w.heap.size, 0, none⟩) k len) k ((bs.map (fun b => (b.toNat : Int))).map (Value.int .u8)) ∧ want = .bool (okL bs) ∧ Below w.heap.size w wr)
    (fun _ _ i _ => len - (intOf i).toNat)
  case atStart => exact ⟨0, [], Nat.zero_le _, rfl, rfl, rfl, hown0, rfl, (Below.refl _ _).grown hgrow0 (Nat.le_refl _) (fun k h => by cases h)⟩
  case round =>
    obtain ⟨k, bs, hk, hbl, rfl, rfl, hown, rfl, hnx⟩ := hrel
    have HL : Hid (bs.length = k) := hbl
    clear hbl
    by_cases hlt : k < len
    · have hcell : wr.cell? ⟨b, off + k, none⟩ = some (.int .u8 (zs.getD k 0)) := (hnx.cell (by exact hb)).trans (hc k (by omega))
      obtain ⟨hlo, hhi⟩ := hr k
      clear hc hr
      generalize zs.getD k 0 = p at *
      have hq : (p % 23).toNat < tabB.size := by rw [tab_size]; omega
      have HT : Hid (okL (bs ++ [tabB[(p % 23).toNat]'hq]) = (okL bs && decide ((p % 23).toNat < 14))) := okL_tab _ _ _
      by_cases h14 : p % 23 < 14
      all_goals
        go_wp2_with (at_builtin; refine wpList_append_fits _ rfl _ _ 24 rfl w.heap.size 5 i0 1 Yba.underlying24 hi hz1 w.heap.size k len _ rfl (hown.alloc _) ⟨wr.heap.size, 0, none⟩ 1 1 [.int .u8 ((tabB[(p % 23).toNat]'hq).toNat : Int)] rfl rfl (cell_one_new _ _ _) (ints_oneCell .u8 [_]) (by omega) ?_; intro w1 hown1 hgrow1)
        go_roundw
        case rel =>
          refine ⟨k + 1, bs ++ [tabB[(p % 23).toNat]'hq], by omega, by simp [HL.out], by go_num, rfl, by simpa using hown1, ?_, ?_⟩
          · rw [HT.out]; first | (rw [decide_eq_true (show (p % 23).toNat < 14 by omega), Bool.and_true]) | (rw [decide_eq_false (show ¬ (p % 23).toNat < 14 by omega), Bool.and_false])
          · exact (hnx.alloc hnx.size _).grown hgrow1 (by simp; have := hnx.size; omega) (fun j hj => by cases hj; exact Nat.le_refl _)
        case measure => simp [intOf]; omega
    · have hkl : k = len := by omega
      subst hkl
      have hcv := conv_own bs k k w.heap.size w.heap.size wr HL.out hown
      clear hc hr hown
      go_wp2_with (go_at_call 6; refine (list_said _ _ (okL bs) (by rw [ba_data])).mono ?_; rintro e w' ⟨rfl, pos, rfl⟩)
      go_ret
      exact ⟨by simp, below_iter hnx hnx.size _ _⟩

set_option maxRecDepth 1000000 in
set_option maxHeartbeats 1000000 in
/-- No element: nil, or an empty slice. -/
theorem built_empty (a0 : Option Addr) (cap : Nat) (w : World) :
    Calls Yba.prog 4 #[.slice a0 0 cap] w fun e w' => e = .returned (.bool true) ∧ Below w.heap.size w w' := by
  obtain ⟨i0, hi, hz0, hz1, hz2⟩ := info_parts Yba.info5
  go_enter Yba.func4, Yba.ntmps4
  go_wp2_with (at_make; refine wpList_make_own _ rfl _ _ 24 rfl w.heap.size 5 i0 (.int .u8 0) 1 Yba.underlying24 hi hz0 hz1 _ _ _ 0 rfl rfl (by omega) ?b2 ?b3 (Nat.le_refl _) ?_)
  case b2 => rw [hz2]; omega
  case b3 => unfold maxLen; omega
  intro w0 hown0 hgrow0
  have hcv := conv_own [] 0 0 w.heap.size w.heap.size w0 rfl hown0
  have hnx : Below w.heap.size w w0 := (Below.refl _ _).grown hgrow0 (Nat.le_refl _) (fun k h => by cases h)
  go_wp2
  refine wp_loop_rounds 1 ?_
  rw [rounds_succ]
  go_wp2_with (go_at_call 6; refine (list_said _ _ true rfl).mono ?_; rintro e w' ⟨rfl, pos, rfl⟩)
  go_ret
  exact ⟨rfl, below_iter hnx hnx.size _ _⟩

set_option maxHeartbeats 1000000 in
/-- More than 1024 elements. -/
theorem built_long (a0 : Option Addr) (len cap : Nat) (w : World) (h : 1024 < len) :
    Calls Yba.prog 4 #[.slice a0 len cap] w fun e w' => e = .returned (.bool true) ∧ Below w.heap.size w w' := by
  have h' : (1024 : Int) < (len : Int) := by omega
  go_enter Yba.func4, Yba.ntmps4
  go_wp2
  go_ret
  exact ⟨rfl, Below.refl _ _⟩
end Go.Proofs.Ybulkbgbg
