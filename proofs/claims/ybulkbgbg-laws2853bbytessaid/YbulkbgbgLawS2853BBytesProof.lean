/-
  The law LawS2853BBytes: the walk, and the row's step (after the given shell).
-/
import Derived.Test.YbulkbgbgRows
import Derived.Test.YbulkbgbgBase
import Derived.WalkKit
import Derived.ProofKit
import Derived.OpenShut
import Derived.ShutString
namespace Go.Proofs.Ybulkbgbg.lawS2853BBytes
open Go.ChangeShapes Go.WideShapes Go.ChangeAt Go.RowKit
open Go.ChangeMaps (open_string shut_string)
set_option linter.unusedVariables false      -- a walk need not use every 'w<i>' (that an integer argument fits its kind)

theorem own : ownKnob Yba.prog.godebug = none := by kernel_rfl

/-! ### STEP 1: THE WALK -/
theorem list_said (s : ByteArray) (w : World) (v : Bool) (h : okL s.data.toList = v) :
    Calls Yba.prog 6 #[.string s] w fun e w' => e = .returned (.bool v) ∧ ∃ pos, w' = w.iter s pos := by
  subst h; exact list_any s w

theorem grown_iter (w : World) (s : ByteArray) (pos : Nat) : Grown w (w.iter s pos) := by
  unfold World.iter
  refine ⟨World.keptBut_alloc _ _ _, fun a => ?_, by show w.heap.size ≤ (w.heap.push _).size; simp⟩
  by_cases h : a.block = w.heap.size
  · have e1 : (w.alloc (.stringIter s pos)).heap[a.block]? = some (.stringIter s pos) := by rw [h]; exact (MapKept.heap_alloc w _).1
    have e2 : w.heap[a.block]? = none := by rw [h]; simp
    simp [World.frozen?, e1, e2]
  · exact World.frozen?_alloc_old _ _ _ h

set_option maxRecDepth 1000000 in
set_option maxHeartbeats 1000000 in
theorem walk (a0 : ByteArray) (w0 : a0.size ≤ maxLen) (w : World) :
    Calls Yba.prog 3 #[.string a0] w fun e w' => e = .returned (.bool true) ∧ Grown w w' := by
  unfold maxLen at w0
  go_enter Yba.func3, Yba.ntmps3
  go_wp2
  go_loop [3, 4] (fun want i => ∃ k : Nat, k ≤ a0.size ∧ i = .int .i64 k ∧ want = .bool true ∧ Hid (okL (a0.data.toList.take k) = true)) (fun _ i => a0.size - (intOf i).toNat)
  case atStart => exact ⟨0, Nat.zero_le _, rfl, rfl, rfl⟩
  case round =>
    obtain ⟨k, hk, rfl, rfl, HG⟩ := hrel
    by_cases hlt : k < a0.size
    · cases hb : okI ((a0[k]'hlt).toNat : Int) with
      | false =>
        have HT : Hid (okL a0.data.toList = false) := okL_bad a0 k hlt hb
        have HC : Hid (∀ w, Calls Yba.prog 5 #[.int .u8 ((a0[k]'hlt).toNat : Int)] w fun e w' => e = .returned (.bool false) ∧ w' = w) := by
          intro w1
          have := ok_any ((a0[k]'hlt).toNat : Int) w1 (by omega) (by have := (a0[k]'hlt).toNat_lt; omega)
          rw [hb] at this
          exact this
        clear hb HG
        go_wp2_with (first
          | (go_at_call 5; refine (HC.out _).mono ?_; rintro e w' ⟨rfl, rfl⟩)
          | (go_at_call 6; refine (list_said _ _ false HT.out).mono ?_; rintro e w' ⟨rfl, pos, rfl⟩))
        go_ret
        exact ⟨rfl, grown_iter _ _ _⟩
      | true =>
        have HT : Hid (okL (a0.data.toList.take (k + 1)) = true) := okL_step a0 k hlt HG.out hb
        have HC : Hid (∀ w, Calls Yba.prog 5 #[.int .u8 ((a0[k]'hlt).toNat : Int)] w fun e w' => e = .returned (.bool true) ∧ w' = w) := by
          intro w1
          have := ok_any ((a0[k]'hlt).toNat : Int) w1 (by omega) (by have := (a0[k]'hlt).toNat_lt; omega)
          rw [hb] at this
          exact this
        clear hb HG
        go_wp2_with (go_at_call 5; refine (HC.out _).mono ?_; rintro e w' ⟨rfl, rfl⟩)
        go_round
        case rel => exact ⟨k + 1, by omega, by go_num, rfl, HT⟩
        case measure => simp [intOf]; omega
    · have HT : Hid (okL a0.data.toList = true) := by
        have h := HG.out
        rw [okL_end a0 k hlt] at h
        exact h
      clear HG
      go_wp2_with (go_at_call 6; refine (list_said _ _ true HT.out).mono ?_; rintro e w' ⟨rfl, pos, rfl⟩)
      go_ret
      exact ⟨rfl, grown_iter _ _ _⟩

/-! ### THE ROW's STEP: WRITTEN OUT: LEAVE IT -/
set_option maxRecDepth 100000 in
theorem lifted (os : Os) (started : os.Started) (H : Type) (enc : TypeId × Value → H) :
    ReturnsInHanded {} Yba.checked os 3 .any (Rows.lawS2853BBytesSpec.pre6 enc Yba.prog Yba.f3 Rows.lawS2853BBytesRow.domain false) (Rows.lawS2853BBytesSpec.post enc Yba.prog Yba.f3 false true false false) := by
  refine returnsInHanded_of_change (C := Yba.checked) own started (by kernel_rfl) Yba.func3
    (ChangeSpec.witness6 (enc := enc) (C := Yba.checked) false ⟨#[], #[.string ByteArray.empty], []⟩ 8 (by kernel_rfl) (by kernel_rfl) (by kernel_rfl) (by kernel_rfl)) ?_
  intro W base args ds gs before hval0 hW hcnd _
  have hval : ∀ (j : Nat) t v, Yba.f3.params[j]? = some t → args[j]? = some v → Value.okWide Yba.prog W .any base t v := hval0
  have hW' := hW
  obtain ⟨p, q, hA0, hV, rfl, hfz, hnd⟩ := hW
  have hA : DataW.TrodAll enc Yba.prog W 0 (fun _ => true) true Yba.f3.params.toList args.toList ds p := hA0
  rw [Yba.params3] at hA hval
  obtain ⟨v0, vs0, d0, ds0, p0, q0, hargs, rfl, rfl, h0, r0⟩ := trodAll_cons hA
  obtain ⟨rfl, rfl, rfl⟩ := trodAll_nil r0
  obtain rfl : args = #[v0] := by cases args; simp_all
  obtain ⟨rfl, rfl⟩ := trodVars_none hV
  obtain ⟨a0, rfl, rfl, rfl, w0⟩ := open_string Yba.underlying9 (hval 0 9 v0 rfl rfl) h0
  clear hA0 hval0
  simp only [List.append_nil] at hW'
  refine (walk a0 w0 W).mono fun e W' ⟨he, hg⟩ => ?_
  subst he
  exact ⟨_, rfl, post_of_same (pa := []) (pv := []) hW' (fun _ _ _ => (trodAll_cons_mk (shut_bool Yba.underlying4 _) trodAll_mk0)) (fun sp _ => (trodAll_cons_mk (shut_string Yba.underlying9 w0) trodAll_mk0)) (fun _ _ => rfl) rfl
    (hg.frame _) hg.2.1 (ok_one (by kernel_rfl) rfl (okWide_bool_mk Yba.underlying4 _))⟩

theorem over : Rows.lawS2853BBytesRow.holds Yba.pinned (OpenSpec.ofChange Rows.lawS2853BBytesSpec) :=
  OpenClaim.holds_of_wide 3 Yba.f3 rfl rfl rfl rfl rfl rfl rfl ⟨rfl, rfl, rfl, rfl, rfl⟩ rfl rfl rfl rfl rfl (by kernel_rfl) Yba.func3 (by kernel_rfl)
    (of_decide_eq_true (by kernel_rfl)) (by unfold Func.isWrapper; first | (rw [if_pos (by decide +kernel)]; kernel_rfl) | (rw [if_neg (by decide +kernel)]; exact ⟨rfl, rfl⟩))
    (fun os started H enc _ => lifted os started H enc)

/-- The statement. -/
theorem proved : Rows.LawS2853BBytesSaid :=
  over
end Go.Proofs.Ybulkbgbg.lawS2853BBytes
