/-
  The law LawS2855CFront: the row's step (after the given shell of its neighbour).
-/
import Derived.Test.YbulkbgciRows
import Derived.Test.YbulkbgciFront
import Derived.Test.YbulkbgciFrontLong
import Derived.Test.YbulkbgciOpen
import Derived.WalkKit
import Derived.ProofKit
import Derived.OpenShut
import Derived.ShutString
import Derived.ChangeOld
import Derived.Below
namespace Go.Proofs.Ybulkbgci.lawS2855CFront
open Go.ChangeShapes Go.WideShapes Go.ChangeAt Go.RowKit
open Go.ChangeMaps (open_string shut_string)
set_option linter.unusedVariables false

theorem own : ownKnob Yba.prog.godebug = none := by kernel_rfl
theorem laidOut : laidOutB Yba.prog = true := by kernel_rfl

/-- The script's bytes. -/
def IsOps (w : World) (a1 : Option Addr) (n : Nat) : Prop :=
  ∀ j, j < n → ∃ b off, a1 = some ⟨b, off, none⟩ ∧ ∀ i, i < 4 → ∃ z, w.cell? ⟨b, off + j * 4 + i, none⟩ = some (.int .u8 z) ∧ 0 ≤ z ∧ z ≤ 255

theorem wf8 {z : Int} (h : (Lit.int .u8 z).wf = true) : 0 ≤ z ∧ z ≤ 255 := by
  simp [Lit.wf, IntKind.min, IntKind.max, IntKind.signed, IntKind.bits] at h
  omega

theorem lt_of_cell {w : World} {a : Addr} {v : Value} (h : w.cell? a = some v) : a.block < w.heap.size := by
  rcases Nat.lt_or_ge a.block w.heap.size with h1 | h1
  · exact h1
  · have : w.heap[a.block]? = none := by simp [h1]
    simp [World.cell?, this] at h

theorem walk (a0 : Int) (a1 : Option Addr) (len1 cap1 : Nat) (a2 a3 : Int) (w : World) (w0 : (Lit.int .u8 a0).wf = true) (w1 : IsOps w a1 len1) (w2 : (Lit.int .u8 a2).wf = true) (w3 : (Lit.int .u8 a3).wf = true) :
    Calls Yba.prog 5 #[.int .u8 a0, .slice a1 len1 cap1, .int .u8 a2, .int .u8 a3] w fun e w' => e = .returned (.bool true) ∧ Below w.heap.size w w' := by
  by_cases hl : 1024 < len1
  · exact front_long a0 a2 a3 a1 len1 cap1 w hl
  have hz : ∀ c, c < 4 → ∃ f : Nat → Int, (∀ j, 0 ≤ f j ∧ f j ≤ 255) ∧ ∀ j, j < len1 → ∀ b off, a1 = some ⟨b, off, none⟩ → w.cell? ⟨b, off + j * 4 + c, none⟩ = some (.int .u8 (f j)) := by
    intro c hc
    have : ∀ j, ∃ z : Int, (0 ≤ z ∧ z ≤ 255) ∧ (j < len1 → ∀ b off, a1 = some ⟨b, off, none⟩ → w.cell? ⟨b, off + j * 4 + c, none⟩ = some (.int .u8 z)) := by
      intro j
      by_cases hj : j < len1
      · obtain ⟨b, off, hb, hi⟩ := w1 j hj
        obtain ⟨z, hz, h0, h1⟩ := hi c hc
        refine ⟨z, ⟨h0, h1⟩, fun _ b' off' hb' => ?_⟩
        rw [hb] at hb'
        cases hb'
        exact hz
      · exact ⟨0, ⟨by omega, by omega⟩, fun h => absurd h hj⟩
    exact ⟨fun j => Classical.choose (this j), fun j => (Classical.choose_spec (this j)).1, fun j => (Classical.choose_spec (this j)).2⟩
  obtain ⟨zp, p1, p2⟩ := hz 0 (by omega)
  obtain ⟨zo, o1, o2⟩ := hz 1 (by omega)
  obtain ⟨za, q1, q2⟩ := hz 2 (by omega)
  obtain ⟨zs, s1, s2⟩ := hz 3 (by omega)
  refine front_row a0 a1 len1 cap1 a2 a3 zp zo za zs w (by omega) (wf8 w0).1 (wf8 w0).2 (wf8 w2).1 (wf8 w2).2 (wf8 w3).1 (wf8 w3).2 (fun j => ⟨p1 j, o1 j, q1 j, s1 j⟩) fun j hj => ?_
  obtain ⟨b, off, hb, hi⟩ := w1 j hj
  obtain ⟨z, hz, _⟩ := hi 0 (by omega)
  exact ⟨b, off, hb, lt_of_cell hz, p2 j hj b off hb, o2 j hj b off hb, q2 j hj b off hb, s2 j hj b off hb⟩

set_option maxRecDepth 100000 in
theorem lifted (os : Os) (started : os.Started) (H : Type) (enc : TypeId × Value → H) :
    ReturnsInHanded {} Yba.checked os 5 .any (Rows.lawS2855CFrontSpec.pre6 enc Yba.prog Yba.f5 Rows.lawS2855CFrontRow.domain false) (Rows.lawS2855CFrontSpec.post enc Yba.prog Yba.f5 false true false false) := by
  refine returnsInHanded_of_change (C := Yba.checked) own started (by kernel_rfl) Yba.func5
    (ChangeSpec.witness6 (enc := enc) (C := Yba.checked) false ⟨#[], #[.int .u8 0, .slice none 0 0, .int .u8 0, .int .u8 0], []⟩ 8 (by kernel_rfl) (by kernel_rfl) (by kernel_rfl) (by kernel_rfl)) ?_
  intro W base args ds gs before hval0 hW hcnd _
  have hval : ∀ (j : Nat) t v, Yba.f5.params[j]? = some t → args[j]? = some v → Value.okWide Yba.prog W .any base t v := hval0
  have hW' := hW
  obtain ⟨p, q, hA0, hV, rfl, hfz, hnd⟩ := hW
  have hA : DataW.TrodAll enc Yba.prog W 0 (fun _ => true) true Yba.f5.params.toList args.toList ds p := hA0
  rw [Yba.params5] at hA hval
  obtain ⟨v0, vs0, d0, ds0, p0, q0, hargs, rfl, rfl, h0, r0⟩ := trodAll_cons hA
  obtain ⟨v1, vs1, d1, ds1, p1, q1, rfl, rfl, rfl, h1, r1⟩ := trodAll_cons r0
  obtain ⟨v2, vs2, d2, ds2, p2, q2, rfl, rfl, rfl, h2, r2⟩ := trodAll_cons r1
  obtain ⟨v3, vs3, d3, ds3, p3, q3, rfl, rfl, rfl, h3, r3⟩ := trodAll_cons r2
  obtain ⟨rfl, rfl, rfl⟩ := trodAll_nil r3
  obtain rfl : args = #[v0, v1, v2, v3] := by cases args; simp_all
  obtain ⟨rfl, rfl⟩ := trodVars_none hV
  obtain ⟨a0, rfl, rfl, rfl, w0⟩ := open_int Yba.underlying5 (hval 0 5 v0 rfl rfl) h0
  obtain ⟨a1, len1, cap1, rfl⟩ := okWide_slice Yba.underlying42 (hval 1 42 v1 rfl rfl)
  obtain ⟨a2, rfl, rfl, rfl, w2⟩ := open_int Yba.underlying5 (hval 2 5 v2 rfl rfl) h2
  obtain ⟨a3, rfl, rfl, rfl, w3⟩ := open_int Yba.underlying5 (hval 3 5 v3 rfl rfl) h3
  have k1 := h1
  have lt1 : ∀ x ∈ p1, x.block < W.heap.size := by obtain ⟨m, hm⟩ := k1; exact DataW.trod_lt m _ _ _ hm
  have w1 : IsOps W a1 len1 := by
    obtain ⟨fuel, hf⟩ := h1
    have ho := OpenRows.open_rows Yba.underlying42 Yba.underlying47 4 (by kernel_rfl) (by
      intro i f hf
      match i, hf with
      | 0, hf => cases hf; exact ⟨rfl, by kernel_rfl⟩
      | 1, hf => cases hf; exact ⟨rfl, by kernel_rfl⟩
      | 2, hf => cases hf; exact ⟨rfl, by kernel_rfl⟩
      | 3, hf => cases hf; exact ⟨rfl, by kernel_rfl⟩
      | _ + 4, hf => simp at hf) rfl (by omega) hf
    rcases ho.2.2 with rfl | ⟨b, off, rfl, hc⟩
    · exact fun j hj => absurd hj (Nat.not_lt_zero _)
    · refine fun j hj => ⟨b, off, rfl, fun i hi => ?_⟩
      have key : ∀ (c : Nat) (f : Field), f.type = 5 → (∃ v n y, W.cell? ⟨b, off + j * 4 + c, none⟩ = some v ∧ DataW.trod enc Yba.prog W 0 (fun _ => true) true n f.type [v] = some y) → ∃ z, W.cell? ⟨b, off + j * 4 + c, none⟩ = some (.int .u8 z) ∧ 0 ≤ z ∧ z ≤ 255 := by
        rintro c f hf5 ⟨v, n, y, hv, hy⟩
        rw [hf5] at hy
        obtain ⟨z, hz, _, hwz⟩ := DataW.trod_int Yba.underlying5 hy
        cases hz
        exact ⟨z, hv, wf8 hwz⟩
      match i, hi with
      | 0, _ => exact key 0 _ rfl (hc j hj 0 _ rfl)
      | 1, _ => exact key 1 _ rfl (hc j hj 1 _ rfl)
      | 2, _ => exact key 2 _ rfl (hc j hj 2 _ rfl)
      | 3, _ => exact key 3 _ rfl (hc j hj 3 _ rfl)
  clear hA0 hval0
  refine (walk a0 a1 len1 cap1 a2 a3 W w0 w1 w2 w3).mono fun e W' ⟨he, bel⟩ => ?_
  subst he
  exact ⟨_, rfl, _, _, _, [], _, [], hW', trodAll_mk1 (shut_bool Yba.underlying4 _), (trodAll_cons_mk (shut_int Yba.underlying5 w0) (trodAll_cons_mk (Below.trod laidOut (by kernel_rfl) (of_decide_eq_true (by kernel_rfl)) k1 bel lt1) (trodAll_cons_mk (shut_int Yba.underlying5 w2) (trodAll_cons_mk (shut_int Yba.underlying5 w3) trodAll_mk0)))), rfl, bel.frame _, fun h => by cases h⟩

theorem over : Rows.lawS2855CFrontRow.holds Yba.pinned (OpenSpec.ofChange Rows.lawS2855CFrontSpec) :=
  OpenClaim.holds_of_wide 5 Yba.f5 rfl rfl rfl rfl rfl rfl rfl ⟨rfl, rfl, rfl, rfl, rfl⟩ rfl rfl rfl rfl rfl (by kernel_rfl) Yba.func5 (by kernel_rfl)
    (of_decide_eq_true (by kernel_rfl)) (by unfold Func.isWrapper; first | (rw [if_pos (by decide +kernel)]; kernel_rfl) | (rw [if_neg (by decide +kernel)]; exact ⟨rfl, rfl⟩))
    (fun os started H enc _ => lifted os started H enc)

/-- The statement. -/
theorem proved : Rows.LawS2855CFrontSaid := over
end Go.Proofs.Ybulkbgci.lawS2855CFront
