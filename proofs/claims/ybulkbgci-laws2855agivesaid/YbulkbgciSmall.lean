/-
  Small contracts for the law LawS2855AGive: TryLock on a free lock; zzs2855aclosed at an open and at a closed channel; a new channel.
-/
import Derived.Test.YbulkbgciLocks
import Derived.WalkKit
import Derived.Conc.MuLone
import Derived.Conc.LoneCalls
import Derived.Laws.LoneSync
namespace Go.Proofs.Ybulkbgci
open Go.RowKit Go.Conc Go.MuLone

set_option maxRecDepth 100000 in
set_option maxHeartbeats 1600000 in
theorem trylock_free (a : Addr) (w : World) (hc : w.cell? a = some (.int .i32 0)) (hz : w.frozen? a = false) :
    Calls Yba.prog 8 #[.pointer (some a)] w fun e w' => e = .returned (.bool true) ∧ w' = w.setCell a (.int .i32 1) := by
  have hd := disable Yba.muLib
  have he := enable Yba.muLib
  have hac := acquire Yba.muLib
  have hcas := run_call_cas_hit (P := Yba.prog) Yba.func32 (by kernel_rfl) (by kernel_rfl) (by kernel_rfl) .i32 (by kernel_rfl) (y := 1) hc hz
  have hcell1 : (w.setCell a (.int .i32 1)).cell? a = some (.int .i32 1) := World.cell?_setCell_same w a (.int .i32 1) hc
  have hcv := run_convert_to_unsafe (P := Yba.prog) (src := 90) (dst := 94) Yba.underlying90 Yba.underlying94 Yba.muLib.room_tIMutex hcell1
  go_enter Yba.func8, Yba.ntmps8
  go_wp2
  go_ret
  exact ⟨rfl, rfl⟩

theorem bytes29 : ∃ i, Yba.prog.info? 29 = some i ∧ i.bytes = 0 := by
  have h : (Yba.prog.info? 29).map (·.bytes) = some 0 := by kernel_rfl
  obtain ⟨i, hi, hb⟩ := Option.map_eq_some_iff.1 h
  exact ⟨i, hi, hb⟩
theorem mk0 (w : World) : (Instr.makeChan 25 (.int .i64 0)).run Yba.prog w = .ok (.chan (some w.heap.size)) (w.alloc (.chan 0 #[] false 0 0 false)) := by
  obtain ⟨i, hi, hb⟩ := bytes29
  simpa using run_makeChan (P := Yba.prog) (w := w) Yba.underlying25 hi .i64 0 (by omega) (by rw [hb]; omega)

section
variable {P : Program} {fr : Frame} {cs : List Frame} {w w₁ : World} {es : Array Event} {c cap s r : Nat} {z : Value} {tm : Bool}
/-- A select of ONE receive, with a default; the channel is closed and its buffer empty: the receive's case: index 0. -/
theorem step_lone_select_shut (h : stepG P true (G fr cs) w = .comm (G fr cs) #[rcase c z] false .select w₁ es) (hc : w₁.heap[c]? = some (.chan cap #[] true s r tm)) :
    step P (solo (G fr cs) w) = .next (solo (G (fr.finish (.tuple #[goInt 0, .bool false, z])) cs) w₁) := by
  have hp := partners_alone (c := c) true
  rw [step, stepT_solo rfl]
  simp [runT, solo, G, Array.swapAt!, Array.swapAt, h, GStep.es, communicate, ways, rcase, hc, hp, choose, Sem.run, Question.forced, bind, Sem.bind, pure, Goroutine.finishComm, commResult] at h ⊢
end

set_option maxRecDepth 100000 in
theorem closed_no (c : Nat) (w : World) (hc : w.heap[c]? = some (.chan 0 #[] false 0 0 false)) : Calls Yba.prog 7 #[.chan (some c)] w fun e w' => e = .returned (.bool false) ∧ w' = w := by
  refine calls_of_loneTo fun cs => ?_
  have e : Frame.enter Yba.prog 7 #[.chan (some c)] .normal = (base 7).at ⟨#[.chan (some c), undef, undef, undef, undef, undef, undef], []⟩ [.code (Yba.f7.body.getD .skip)] := by
    simp [Frame.enter, Frame.at, Yba.func7, base, Yba.f7]
  rw [e]
  refine LoneTo.goes (n := 10) ?_
  simp only [Yba.f7, Option.getD_some]
  s_c stepG_seq
  s_reg
  s_op
  s_c stepG_region_end
  s_c stepG_seq
  s_reg
  s_op
  s_c stepG_region_end
  s_c stepG_seq
  s_reg
  s_stop
  refine LoneTo.step (step_lone_select_default (c := c) (z := .agg #[]) (cap := 0) (s := 0) (r := 0) (tm := false) (stepG_comm (cases := #[rcase c (.agg #[])]) (blocking := false) (shape := .select) (w' := w) rfl rfl (by decide) (by simp [go_sem, execOp, rcase, Act.eval])) hc) ?_
  rw [Frame.finish_at]
  walk_nrm
  refine LoneTo.goes (n := 10) ?_
  s_op
  s_op
  s_c stepG_region_end
  s_c stepG_block
  s_cond false
  s_c stepG_seq
  s_reg
  s_op
  s_c stepG_region_end
  s_c stepG_ret'
  s_stop
  exact LoneTo.done ⟨.returned (.bool false), _, rfl, ⟨rfl, rfl⟩, rfl, rfl, rfl, rfl, _, Yba.func7, by simp [results, Yba.f7, Frame.at]⟩

set_option maxRecDepth 100000 in
theorem closed_yes (c : Nat) (w : World) (hc : w.heap[c]? = some (.chan 0 #[] true 0 0 false)) : Calls Yba.prog 7 #[.chan (some c)] w fun e w' => e = .returned (.bool true) ∧ w' = w := by
  refine calls_of_loneTo fun cs => ?_
  have e : Frame.enter Yba.prog 7 #[.chan (some c)] .normal = (base 7).at ⟨#[.chan (some c), undef, undef, undef, undef, undef, undef], []⟩ [.code (Yba.f7.body.getD .skip)] := by
    simp [Frame.enter, Frame.at, Yba.func7, base, Yba.f7]
  rw [e]
  refine LoneTo.goes (n := 10) ?_
  simp only [Yba.f7, Option.getD_some]
  s_c stepG_seq
  s_reg
  s_op
  s_c stepG_region_end
  s_c stepG_seq
  s_reg
  s_op
  s_c stepG_region_end
  s_c stepG_seq
  s_reg
  s_stop
  refine LoneTo.step (step_lone_select_shut (c := c) (z := .agg #[]) (cap := 0) (s := 0) (r := 0) (tm := false) (stepG_comm (cases := #[rcase c (.agg #[])]) (blocking := false) (shape := .select) (w' := w) rfl rfl (by decide) (by simp [go_sem, execOp, rcase, Act.eval])) hc) ?_
  rw [Frame.finish_at]
  walk_nrm
  refine LoneTo.goes (n := 10) ?_
  s_op
  s_op
  s_c stepG_region_end
  s_c stepG_block
  s_cond true
  s_c stepG_seq
  s_reg
  s_op
  s_c stepG_region_end
  s_c stepG_ret'
  s_stop
  exact LoneTo.done ⟨.returned (.bool true), _, rfl, ⟨rfl, rfl⟩, rfl, rfl, rfl, rfl, _, Yba.func7, by simp [results, Yba.f7, Frame.at]⟩
end Go.Proofs.Ybulkbgci
