/-
  The law LawS2857BPresence: the row, its variable's datum opened; the tied card.
-/
import Derived.Test.YbulkbgdkDoorRows
import Derived.Test.YbulkbgdkDoorTie
import Derived.Test.YbulkbgdkDoorCards
import Derived.Test.YbulkbgdkDoorPresence
import Derived.WalkKit
import Derived.ProofKit
import Derived.OpenShut
import Derived.ShutString
import Derived.ChangeOld
import Derived.ChangeVars
import Derived.Below
import Derived.LaidMore
import Derived.Stop.Joined
import Derived.SevenTiedAt
import Derived.Deep.Slices
namespace Go.Proofs.YbulkbgdkDoor.lawS2857BPresence
open Go.ChangeShapes Go.WideShapes Go.ChangeAt Go.RowKit
open Go.ChangeMaps (open_string shut_string)
set_option linter.unusedVariables false

theorem own : ownKnob Ybad.prog.godebug = none := by kernel_rfl
theorem laidOut : laidOutB Ybad.prog = true := by kernel_rfl
theorem gP : Ybad.prog.globalNamed "example.com/syncline/syncline/serve.preconditions" = some 0 := by kernel_rfl
theorem tP : (Ybad.prog.globals[0]?).map (·.type) = some 22 := by kernel_rfl
theorem cells9 : Ybad.prog.cellsOf 9 = 1 := by kernel_rfl
theorem cells5 : Ybad.prog.cellsOf 5 = 1 := by kernel_rfl

theorem var?_below {P : Program} {B g : Nat} {W W' : World} {n : String} {cs : Array Value} (h : Below B W W') (hg : P.globalNamed n = some g) (hgB : g < B) (hv : W.var? P n = some cs) : W'.var? P n = some cs := by
  unfold World.var? at hv ⊢
  simp only [hg, Option.bind_some] at hv ⊢
  rw [h.block g hgB]
  exact hv

/-- The door's own heap meets the condition. -/
theorem door_met (os : Os) (args : Array Value) : laidMetH Ybad.prog Rows.lawS2857BPresenceRow.laid ((World.doorLaid Ybad.prog 400 os).forCall (fun _ _ => 0) ⟨#[], args, []⟩).memory :=
  laidMetH_of_parts3 (fuel := 8) (laidMet_of_run' 8 (by kernel_rfl) (by kernel_rfl)) (by kernel_rfl) (by kernel_rfl)

theorem add_plain (b off i : Nat) : (⟨b, off, none⟩ : Addr).add i = ⟨b, off + i, none⟩ := by
  unfold Addr.add
  split <;> simp_all

/-- What the condition gives the walk. -/
theorem of_laid {W : World} (h : laidMetH Ybad.prog Rows.lawS2857BPresenceRow.laid W) : Tab W := by
  rw [MakeChecks.laidMetH_plain _ _ _ (by kernel_rfl)] at h
  obtain ⟨ps, ⟨g0, t0, cs0, f0, p0, q0, hg0, ht0, hv0, hd0, _, _⟩, _, _⟩ := h
  obtain rfl := Option.some.inj (gP.symm.trans hg0)
  obtain rfl := Option.some.inj (tP.symm.trans ht0)
  obtain ⟨a, cap, hcs, _, hel⟩ := open_row Ybad.underlying22 cells9 (show DataW.trod _ Ybad.prog W 0 _ false f0 22 cs0.toList = some (.slice [.lit (.string [73, 102, 45, 77, 97, 116, 99, 104]), .lit (.string [73, 102, 45, 78, 111, 110, 101, 45, 77, 97, 116, 99, 104]), .lit (.string [73, 102, 45, 77, 111, 100, 105, 102, 105, 101, 100, 45, 83, 105, 110, 99, 101]), .lit (.string [73, 102, 45, 85, 110, 109, 111, 100, 105, 102, 105, 101, 100, 45, 83, 105, 110, 99, 101]), .lit (.string [82, 97, 110, 103, 101])] [], p0) from hd0)
  have hcell := World.var?_cell hg0 hv0 0
  rw [Array.eq_one_of_toList hcs] at hcell
  have str : ∀ (i : Nat) (l : List UInt8) (s : ByteArray), s.data.toList = l → (∃ v n q, W.cell? (a.add i) = some v ∧ DataW.trod (fun _ => ()) Ybad.prog W 0 (fun _ => true) false n 9 [v] = some (.lit (.string l), q)) → W.cell? (a.add i) = some (.string s) := by
    rintro i l s hs ⟨v, n, q, hv, ht⟩
    obtain ⟨z, hz, hx, _⟩ := DataW.trod_string Ybad.underlying9 ht
    cases hz
    simp only [Prod.mk.injEq, DataW.lit.injEq, Lit.string.injEq] at hx
    have e : s = z := bytes_inj (hs.trans hx.1)
    rw [e]; exact hv
  have c0 := str 0 _ P0 rfl (hel 0 _ rfl)
  have c1 := str 1 _ P1 rfl (hel 1 _ rfl)
  have c2 := str 2 _ P2 rfl (hel 2 _ rfl)
  have c3 := str 3 _ P3 rfl (hel 3 _ rfl)
  have c4 := str 4 _ P4 rfl (hel 4 _ rfl)
  obtain ⟨b, off, spot⟩ := a
  have hspot : spot = none := by simpa [Addr.add] using World.cell?_spot c0
  subst hspot
  rw [add_plain] at c0 c1 c2 c3 c4
  refine ⟨b, off, cap, by simpa using hcell, fun k hk => ?_⟩
  match k, hk with
  | 0, _ => exact c0
  | 1, _ => exact c1
  | 2, _ => exact c2
  | 3, _ => exact c3
  | 4, _ => exact c4

theorem strs {H : Type} {enc : TypeId × Value → H} {w : World} {a : Option Addr} {n cap : Nat} {d : DataW H} {ps : List MemPlace} (h : ∃ fuel, DataW.trod enc Ybad.prog w 0 (fun _ => true) true fuel 22 [.slice a n cap] = some (d, ps)) : Strs w a n := by
  obtain ⟨fuel, hf⟩ := h
  rcases Go.Deep.open_slice1 Ybad.underlying22 cells9 hf with ⟨hcs, _⟩ | ⟨a', len, cap', m, n', V, D, Pl, hcs, _, hl, _, hm, _, hall⟩
  · simp at hcs
    obtain ⟨_, rfl, _⟩ := hcs
    exact fun j hj => absurd hj (Nat.not_lt_zero _)
  · simp at hcs
    obtain ⟨rfl, rfl, rfl⟩ := hcs
    intro j hj
    have hle : n ≤ m := by rw [hm]; split <;> omega
    obtain ⟨hc, ht⟩ := hall j (by omega)
    obtain ⟨s, hs, _, hsz⟩ := DataW.trod_string Ybad.underlying9 ht
    have hV : V j = .string s := by simpa using hs
    rw [hV] at hc
    obtain ⟨b, off, spot⟩ := a'
    have hspot : spot = none := by
      have := World.cell?_spot (hall 0 (by omega)).1
      simpa [Addr.add] using this
    subst hspot
    rw [add_plain] at hc
    exact ⟨b, off, s, rfl, hc, hsz⟩

theorem wf8 {z : Int} (h : (Lit.int .u8 z).wf = true) : 0 ≤ z ∧ z ≤ 255 := by
  simp [Lit.wf, IntKind.min, IntKind.max, IntKind.signed, IntKind.bits] at h
  omega

theorem bytes {H : Type} {enc : TypeId × Value → H} {w : World} {a : Option Addr} {n cap : Nat} {d : DataW H} {ps : List MemPlace} (h : ∃ fuel, DataW.trod enc Ybad.prog w 0 (fun _ => true) true fuel 23 [.slice a n cap] = some (d, ps)) : Bytes w a n := by
  obtain ⟨fuel, hf⟩ := h
  rcases Go.Deep.open_slice1 Ybad.underlying23 cells5 hf with ⟨hcs, _⟩ | ⟨a', len, cap', m, n', V, D, Pl, hcs, _, hl, _, hm, _, hall⟩
  · simp at hcs
    obtain ⟨_, rfl, _⟩ := hcs
    exact fun j hj => absurd hj (Nat.not_lt_zero _)
  · simp at hcs
    obtain ⟨rfl, rfl, rfl⟩ := hcs
    intro j hj
    have hle : n ≤ m := by rw [hm]; split <;> omega
    obtain ⟨hc, ht⟩ := hall j (by omega)
    obtain ⟨z, hs, _, hwz⟩ := DataW.trod_int Ybad.underlying5 ht
    have hV : V j = .int .u8 z := by simpa using hs
    rw [hV] at hc
    obtain ⟨b, off, spot⟩ := a'
    have hspot : spot = none := by
      have := World.cell?_spot (hall 0 (by omega)).1
      simpa [Addr.add] using this
    subst hspot
    rw [add_plain] at hc
    exact ⟨b, off, z, rfl, hc, wf8 hwz⟩

theorem walk (a0 : Option Addr) (n0 c0 : Nat) (a1 : Option Addr) (n1 c1 : Nat) (nm wv : Bool) (w : World) (ht : Tab w) (w0 : Strs w a0 n0) (w1 : Bytes w a1 n1) :
    Calls Ybad.prog 3 #[.slice a0 n0 c0, .slice a1 n1 c1, .bool nm, .bool wv] w fun e w' => e = .returned (.bool true) ∧ Below w.heap.size w w' := by
  by_cases hl : 1024 < n0 ∨ 1024 < n1
  · exact presence_long a0 a1 n0 c0 n1 c1 nm wv w hl
  by_cases hn : nm = true ∧ n0 = 0 ∧ n1 = 0
  · obtain ⟨rfl, rfl, rfl⟩ := hn
    exact presence_nil a0 a1 c0 c1 wv w ht
  · exact presence_row a0 a1 n0 c0 n1 c1 nm wv w (by omega) (by omega) hn ht w0 w1

set_option maxHeartbeats 1600000 in
set_option maxRecDepth 100000 in
theorem lifted (os : Os) (started : os.Started) (H : Type) (enc : TypeId × Value → H) :
    ReturnsInHanded {} Ybad.checked os 3 .any (fun w args => (Rows.lawS2857BPresenceSpec.pre enc Ybad.prog Ybad.f3 [] false w args ∧ laidMetH Ybad.prog Rows.lawS2857BPresenceRow.laid w) ∧ sizedMet enc Ybad.prog Ybad.f3 (OpenSpec.ofChange Rows.lawS2857BPresenceSpec) false w args)
      (Rows.lawS2857BPresenceSpec.post enc Ybad.prog Ybad.f3 false true false false) := by
  refine returnsInHanded_of_change_and (C := Ybad.checked) (X := fun w _ => laidMetH Ybad.prog Rows.lawS2857BPresenceRow.laid w) (fun _ _ _ hh h => h.of_heap hh) own started (by kernel_rfl) Ybad.func3
    (ChangeSpec.witness_shaped (enc := enc) (C := Ybad.checked) (os := os) (X := fun w _ => laidMetH Ybad.prog Rows.lawS2857BPresenceRow.laid w) false (World.doorLaid Ybad.prog 400 os) #[.slice none 0 0, .slice none 0 0, .bool false, .bool false] 8 rfl (World.shaped_of_RefB (by kernel_rfl) (by kernel_rfl)) (by kernel_rfl) (by kernel_rfl) (by kernel_rfl) (door_met os _)) ?_
  intro W base args ds gs before hval0 hW _ _ hL _
  have hval : ∀ (j : Nat) t v, Ybad.f3.params[j]? = some t → args[j]? = some v → Value.okWide Ybad.prog W .any base t v := hval0
  have hW' := hW
  obtain ⟨p, q, hA0, hV0, rfl, hfz, hnd⟩ := hW
  have hA : DataW.TrodAll enc Ybad.prog W 0 (fun _ => true) true Ybad.f3.params.toList args.toList ds p := hA0
  have hV : DataW.TrodVars enc Ybad.prog W (fun _ => true) ["example.com/syncline/syncline/serve.preconditions"] gs q := hV0
  rw [Ybad.params3] at hA hval
  obtain ⟨v0, vs0, d0, ds0, p0, q0, hargs, rfl, rfl, h0, r0⟩ := trodAll_cons hA
  obtain ⟨v1, vs1, d1, ds1, p1, q1, rfl, rfl, rfl, h1, r1⟩ := trodAll_cons r0
  obtain ⟨v2, vs2, d2, ds2, p2, q2, rfl, rfl, rfl, h2, r2⟩ := trodAll_cons r1
  obtain ⟨v3, vs3, d3, ds3, p3, q3, rfl, rfl, rfl, h3, r3⟩ := trodAll_cons r2
  obtain ⟨rfl, rfl, rfl⟩ := trodAll_nil r3
  obtain rfl : args = #[v0, v1, v2, v3] := by cases args; simp_all
  obtain ⟨g, t, cs, fuel, dv, pv, rfl, hg, ht, hvar, hd, rfl⟩ := trodVars_one hV
  obtain rfl := Option.some.inj (gP.symm.trans hg)
  obtain rfl := Option.some.inj (tP.symm.trans ht)
  obtain ⟨a0, n0, c0, rfl⟩ := okWide_slice Ybad.underlying22 (hval 0 22 v0 rfl rfl)
  obtain ⟨a1, n1, c1, rfl⟩ := okWide_slice Ybad.underlying23 (hval 1 23 v1 rfl rfl)
  obtain ⟨nm, rfl, rfl, rfl⟩ := open_bool Ybad.underlying4 (hval 2 4 v2 rfl rfl) h2
  obtain ⟨wv, rfl, rfl, rfl⟩ := open_bool Ybad.underlying4 (hval 3 4 v3 rfl rfl) h3
  have tab := of_laid hL
  have k0 := h0
  have k1 := h1
  have lt0 : ∀ x ∈ p0, x.block < W.heap.size := by obtain ⟨m, hm⟩ := k0; exact DataW.trod_lt m _ _ _ hm
  have lt1 : ∀ x ∈ p1, x.block < W.heap.size := by obtain ⟨m, hm⟩ := k1; exact DataW.trod_lt m _ _ _ hm
  have ltv : ∀ x ∈ pv, x.block < W.heap.size := DataW.trod_lt fuel _ _ _ hd
  have w0 : Strs W a0 n0 := strs h0
  have w1 : Bytes W a1 n1 := bytes h1
  have h0lt : 0 < W.heap.size := by
    obtain ⟨b, off, cap, hc, _⟩ := tab
    exact lt_cell hc
  obtain ⟨av, nv, cc, hcv⟩ : ∃ av nv cc, cs = #[.slice av nv cc] := by
    rcases Go.Deep.open_slice Ybad.underlying22 hd with ⟨hcs, _⟩ | ⟨a', len, cap', m, n', D, Pl, hcs, _⟩
    · exact ⟨_, _, _, Array.eq_one_of_toList hcs⟩
    · exact ⟨_, _, _, Array.eq_one_of_toList hcs⟩
  subst hcv
  clear hA0 hV0 hval0
  refine (walk a0 n0 c0 a1 n1 c1 nm wv W tab w0 w1).mono fun e W' ⟨he, bel⟩ => ?_
  subst he
  obtain ⟨fuel', hd'⟩ := Below.trod laidOut (by kernel_rfl) (of_decide_eq_true (by kernel_rfl)) (v := .slice av nv cc) (⟨fuel, by simpa [Value.cells] using hd⟩ : DataW.Trod enc Ybad.prog W 0 (fun _ => true) true 22 (.slice av nv cc) dv pv) bel ltv
  have hv' := trodVars_mk1 (enc := enc) (spare := fun b => decide (b < W.heap.size)) hg ht (var?_below bel hg h0lt hvar) (by simpa [Value.cells] using hd')
  exact ⟨_, rfl, _, _, _, [], _, _, hW', trodAll_mk1 (shut_bool Ybad.underlying4 _), (trodAll_cons_mk (Below.trod laidOut (by kernel_rfl) (of_decide_eq_true (by kernel_rfl)) k0 bel lt0) (trodAll_cons_mk (Below.trod laidOut (by kernel_rfl) (of_decide_eq_true (by kernel_rfl)) k1 bel lt1) (trodAll_cons_mk (shut_bool Ybad.underlying4 _) (trodAll_cons_mk (shut_bool Ybad.underlying4 _) trodAll_mk0)))), hv', bel.frame _, fun h => by cases h⟩

theorem row_holds : Rows.LawS2857BPresenceSaid :=
  OpenClaim.holds_of_wide 3 Ybad.f3 rfl rfl rfl rfl rfl rfl rfl ⟨rfl, rfl, rfl, rfl, rfl⟩ rfl rfl rfl rfl rfl (by kernel_rfl) Ybad.func3 (by kernel_rfl)
    (of_decide_eq_true (by kernel_rfl)) (by unfold Func.isWrapper; first | (rw [if_pos (by decide +kernel)]; kernel_rfl) | (rw [if_neg (by decide +kernel)]; exact ⟨rfl, rfl⟩))
    (fun os started H enc _ => lifted os started H enc)

/-- The statement: the tied card. -/
theorem proved : Rows.LawS2857BPresenceCardSaid :=
  Claim7.holds_tied_plain_at .later [] [.data] true (true, "7170aece3e8449e3d3a08db8b11e49a8ec7c8515c20849292051fa6f07d2757d") false
    row_holds (fun _ h => by cases h) (by kernel_rfl) (fun _ h => by cases h) lawS2857BPresence_row_tie rfl ⟨rfl, rfl⟩ (by kernel_rfl) rfl
    (fun f fn hf hfn => by
      obtain rfl : f = 3 := Option.some.inj ((show Ybad.prog.funcNamed "example.com/syncline/syncline/serve.LawS2857BPresence" = some 3 by kernel_rfl).symm.trans hf) |>.symm
      obtain rfl : fn = Ybad.f3 := (Option.some.inj (Ybad.func3.symm.trans hfn)).symm
      exact ⟨by kernel_rfl, fun j t ht => by
        rw [Ybad.params3] at ht
        have h3 : t = 22 ∨ t = 23 ∨ t = 4 := by
          rcases j with _ | _ | _ | _ | j
          · exact .inl (by simpa using ht.symm)
          · exact .inr (.inl (by simpa using ht.symm))
          · exact .inr (.inr (by simpa using ht.symm))
          · exact .inr (.inr (by simpa using ht.symm))
          · simp at ht
        rcases h3 with rfl | rfl | rfl
        · exact (show Ybad.prog.wantsStandIn 22 = false by kernel_rfl)
        · exact (show Ybad.prog.wantsStandIn 23 = false by kernel_rfl)
        · exact (show Ybad.prog.wantsStandIn 4 = false by kernel_rfl)⟩)
    (by kernel_rfl)
end Go.Proofs.YbulkbgdkDoor.lawS2857BPresence
