/-
  'lookupAttr', 'attr', 'zzs2857asame'.
-/
import Derived.Test.YbulkbgdkBase
namespace Go.Proofs.Ybulkbgdk
open Go.RowKit
set_option linter.unusedVariables false

/-- No namespace, and the name. -/
def mt (name : ByteArray) (x : At) : Bool := decide (x.s.toList = []) && (x.l.toList == name.toList)
def look (name : ByteArray) (L : List At) : Option ByteArray := (L.find? (mt name)).map At.v
theorem look_hit {name : ByteArray} {A D : List At} {x : At} (hA : ∀ y ∈ A, mt name y = false) (hx : mt name x = true) : look name (A ++ x :: D) = some x.v := by
  have h1 : A.find? (mt name) = none := List.find?_eq_none.2 (fun y hy => by simp [hA y hy])
  simp [look, List.find?_append, h1, hx]
theorem look_none {name : ByteArray} {A : List At} (hA : ∀ y ∈ A, mt name y = false) : look name A = none := by
  have h1 : A.find? (mt name) = none := List.find?_eq_none.2 (fun y hy => by simp [hA y hy])
  simp [look, h1]
/-- What 'lookupAttr' answers. -/
def ansV (o : Option ByteArray) : Value := .string (o.getD ByteArray.empty)
def ans (o : Option ByteArray) : Value := .tuple #[ansV o, .bool o.isSome]

set_option maxRecDepth 100000 in
set_option maxHeartbeats 4000000 in
theorem look_any (E B : Nat) (name : ByteArray) (v : Value) (L : List At) (w : World) (hE : w.cell? ⟨E, 3, none⟩ = some v) (hown : Own w B v L) (hl : L.length ≤ 5000) :
    Calls Yba.prog 6 #[.pointer (some ⟨E, 0, none⟩), .string name] w fun r w' => r = .returned (ans (look name L)) ∧ Still w w' := by
  obtain ⟨a, c, rfl, hcells⟩ := hown.slice
  have HC : Hid (∀ A x D, L = A ++ x :: D → ∃ g, a = some ⟨g, 0, none⟩ ∧ w.cell? ⟨g, A.length * 3, none⟩ = some (.string x.s) ∧ w.cell? ⟨g, A.length * 3 + 1, none⟩ = some (.string x.l) ∧ w.cell? ⟨g, A.length * 3 + 2, none⟩ = some (.string x.v)) := hcells
  clear hcells hown
  generalize hN : L.length = N at *
  have HN : Hid (L.length = N) := hN
  clear hN
  go_enter Yba.func6, Yba.ntmps6
  go_wp2
  go_loopw [13] (fun i wr => ∃ A D, L = A ++ D ∧ i = .int .i64 A.length ∧ (∀ y ∈ A, mt name y = false) ∧ Hid (Still w wr)) (fun i _ => N - (intOf i).toNat)
  case atStart => exact ⟨[], L, rfl, rfl, fun y hy => by simp at hy, Below.refl _ _⟩
  case round =>
    obtain ⟨A, D, hL, rfl, hA, HS⟩ := hrel
    have HA : Hid (∀ y ∈ A, mt name y = false) := hA
    have HL : Hid (L = A ++ D) := hL
    have hlen : A.length + D.length = N := by rw [← HN.out, hL]; simp
    clear hL hA
    cases D with
    | nil =>
      have hNl : ¬ ((A.length : Int) < (N : Int)) := by simp at hlen; omega
      have HK : Hid (look name L = none) := by
        show _ = _
        rw [HL.out, List.append_nil]; exact look_none HA.out
      go_wp2
      go_ret2
      exact ⟨by rw [HK.out]; rfl, HS.out⟩
    | cons x D =>
      have hNl : (A.length : Int) < (N : Int) := by simp at hlen; omega
      obtain ⟨g, rfl, c0, c1, c2⟩ := HC.out A x D HL.out
      have d0 := (HS.out.cell (lt_cell c0)).trans c0
      have d1 := (HS.out.cell (lt_cell c1)).trans c1
      have d2 := (HS.out.cell (lt_cell c2)).trans c2
      clear c0 c1 c2
      by_cases hs : x.s.toList = []
      · by_cases hn : (x.l.toList == name.toList) = true
        · have HK : Hid (look name L = some x.v) := by
            show _ = _
            rw [HL.out]; exact look_hit HA.out (by simp [mt, hs, hn])
          go_wp2
          go_ret2
          exact ⟨by rw [HK.out]; rfl, HS.out.alloc _⟩
        · have HM : Hid (mt name x = false) := by
            show _ = _
            simp [mt]
            intro _
            simpa using hn
          have hn1 : (x.l.toList == name.toList) = false := by simpa using hn
          clear hn
          have HLx : Hid (L = (A ++ [x]) ++ D) := by
            show L = _
            rw [HL.out]; simp
          go_wp2
          go_roundw
          case rel => exact ⟨A ++ [x], D, HLx.out, by simp, fun y hy => by
            rcases List.mem_append.1 hy with h | h
            · exact HA.out y h
            · simp at h; rw [h]; exact HM.out, HS.out.alloc _⟩
          case measure => simp [intOf]; omega
      · have HM : Hid (mt name x = false) := by
          show _ = _
          simp [mt, hs]
        have hs1 : decide (x.s.toList = []) = false := by simp [hs]
        have HLx : Hid (L = (A ++ [x]) ++ D) := by
          show L = _
          rw [HL.out]; simp
        go_wp2
        go_roundw
        case rel => exact ⟨A ++ [x], D, HLx.out, by simp, fun y hy => by
            rcases List.mem_append.1 hy with h | h
            · exact HA.out y h
            · simp at h; rw [h]; exact HM.out, HS.out.alloc _⟩
        case measure => simp [intOf]; omega
end Go.Proofs.Ybulkbgdk
