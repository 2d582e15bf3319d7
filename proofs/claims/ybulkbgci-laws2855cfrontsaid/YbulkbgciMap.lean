/-
  The map of the cache: from a key to the block of its list element.
-/
import Derived.Test.YbulkbgciRows
import Derived.Maps.OwnSet
import Derived.Maps.Views
import Derived.DeepKeys4
import Derived.KernelRfl
namespace Go.Proofs.Ybulkbgci
open Go.Maps

theorem Yba.laidOut : laidOutB Yba.prog = true := by kernel_rfl
theorem Yba.row51 : 51 < Yba.prog.types.size := of_decide_eq_true (by kernel_rfl)
theorem law51 : Keyed Yba.prog 51 := Keyed.of_law (deep_law_laid Yba.laidOut (m := 2) (by omega) Yba.row51 (by kernel_rfl) (by rw [Yba.underlying51]))

/-- A key: owner, place, kind. -/
def keyV (k : Int × Int × Int) : Value := .agg #[.int .u64 k.1, .int .i64 k.2.1, .int .u8 k.2.2]
def KeyOk (k : Int × Int × Int) : Prop := (0 ≤ k.1 ∧ k.1 < 3) ∧ (0 ≤ k.2.1 ∧ k.2.1 < 4) ∧ (0 ≤ k.2.2 ∧ k.2.2 < 2)

theorem keyV_inj {k k' : Int × Int × Int} (h : keyV k = keyV k') : k = k' := by
  obtain ⟨a, b, c⟩ := k
  obtain ⟨a', b', c'⟩ := k'
  simp [keyV] at h
  simp [h]

theorem key_fin : ∀ (o : Fin 3) (a : Fin 4) (d : Fin 2), (keyOf Yba.prog 51 (keyV ((o.val : Int), (a.val : Int), (d.val : Int)))).isSome = true := by decide +kernel

theorem key_ex (k : Int × Int × Int) (h : KeyOk k) : ∃ l, keyOf Yba.prog 51 (keyV k) = some l := by
  obtain ⟨o, a, d⟩ := k
  obtain ⟨⟨h1, h2⟩, ⟨h3, h4⟩, h5, h6⟩ := h
  simp only at h1 h2 h3 h4 h5 h6
  obtain ⟨o, rfl⟩ := Int.eq_ofNat_of_zero_le h1
  obtain ⟨a, rfl⟩ := Int.eq_ofNat_of_zero_le h3
  obtain ⟨d, rfl⟩ := Int.eq_ofNat_of_zero_le h5
  have := key_fin ⟨o, by omega⟩ ⟨a, by omega⟩ ⟨d, by omega⟩
  exact Option.isSome_iff_exists.1 this

/-- How an element's pointer reads. -/
def elemR (v : Value) : Option (DataW Unit × List MemPlace) :=
  match v with
  | .pointer none => some (.nil, [])
  | .pointer (some ⟨e, 0, none⟩) => some (.lit (.int .i64 e), [])
  | _ => none
def dOf : Option Nat → DataW Unit
  | none => .nil
  | some e => .lit (.int .i64 e)
def ptrOf : Option Nat → Value
  | none => .pointer none
  | some e => .pointer (some ⟨e, 0, none⟩)

theorem elemR_ptr (x : Option Nat) : elemR (ptrOf x) = some (dOf x, []) := by cases x <;> rfl
theorem elemR_inv {v : Value} {x : Option Nat} {ps : List MemPlace} (h : elemR v = some (dOf x, ps)) : v = ptrOf x := by
  unfold elemR at h
  split at h
  · cases x with
    | none => rfl
    | some e => simp [dOf] at h
  · cases x with
    | none => simp [dOf] at h
    | some e =>
      simp [dOf] at h
      simp [ptrOf]
      omega
  · cases h

/-- Block M is a map of at most n entries: at each key the block of its element. -/
def MapIs (w : World) (M n : Nat) (f : Int × Int × Int → Option Nat) : Prop :=
  ∃ D : DataW Unit, w.ownsMap Yba.prog 51 elemR M n D ∧ ∀ k kl, keyOf Yba.prog 51 (keyV k) = some kl → D.atKey kl .nil = dOf (f k) ∧ Maps.has D kl = (f k).isSome

theorem MapIs.blk {w w' : World} {M n : Nat} {f : Int × Int × Int → Option Nat} (h : MapIs w M n f) (hb : w'.heap[M]? = w.heap[M]?) : MapIs w' M n f := by
  obtain ⟨D, ⟨es, cl, h1, h2⟩, h3⟩ := h
  exact ⟨D, ⟨es, cl, hb.trans h1, h2⟩, h3⟩

theorem MapIs.made (w : World) : MapIs (w.alloc (.map #[] 0)) w.heap.size 0 (fun _ => none) :=
  ⟨_, World.ownsMap_made w Yba.prog 51 elemR, fun _ _ _ => ⟨rfl, rfl⟩⟩

theorem zero66 (w : World) : (zeroValue 66).run Yba.prog w = .ok (.pointer none) w := Yba.zeroValue66 w

theorem MapIs.look {w : World} {M n : Nat} {f : Int × Int × Int → Option Nat} (h : MapIs w M n f) {k : Int × Int × Int} (hk : KeyOk k) :
    (Instr.lookup 65 (.map (some M)) (keyV k) true).run Yba.prog w = .ok (.tuple #[ptrOf (f k), .bool (f k).isSome]) w := by
  obtain ⟨D, hown, hD⟩ := h
  obtain ⟨kl, hkl⟩ := key_ex k hk
  obtain ⟨v, ps, hrun, hv⟩ := hown.look_ok law51 Yba.underlying65 (zero66 w) (zd := .nil) (zp := []) rfl hkl
  rw [(hD k kl hkl).1] at hv
  rw [hrun, elemR_inv hv, (hD k kl hkl).2]

theorem MapIs.put {w : World} {M n : Nat} {f : Int × Int × Int → Option Nat} (h : MapIs w M n f) {k : Int × Int × Int} (hk : KeyOk k) (hn : n < maxLen) (e : Nat) :
    ∃ w', (Instr.mapUpdate 65 (.map (some M)) (keyV k) (.pointer (some ⟨e, 0, none⟩))).run Yba.prog w = .ok () w' ∧ MapIs w' M (n + 1) (fun k' => if k' = k then some e else f k') ∧ w.mapTurned w' M := by
  obtain ⟨D, hown, hD⟩ := h
  obtain ⟨kl, hkl⟩ := key_ex k hk
  obtain ⟨w', hrun, hown', ht⟩ := hown.store law51 Yba.underlying65 hn hkl (elemR_ptr (some e))
  refine ⟨w', hrun, ⟨_, hown', fun k' kl' hk' => ?_⟩, ht⟩
  by_cases e1 : k' = k
  · subst e1
    rw [hkl] at hk'
    cases hk'
    simp only [if_true]
    exact ⟨atKey_put_same hown.isMap (law51.key hkl) _ _, has_put_same hown.isMap (law51.key hkl) _⟩
  · have hne : kl' ≠ kl := fun e2 => e1 (keyV_inj (law51.inj hk' (e2 ▸ hkl)))
    simp only [if_neg e1]
    rw [atKey_put_other hne, has_put_other hne]
    exact hD k' kl' hk'

theorem MapIs.del {w : World} {M n : Nat} {f : Int × Int × Int → Option Nat} (h : MapIs w M n f) {k : Int × Int × Int} (hk : KeyOk k) (ty : TypeId) :
    ∃ w', (Builtin.delete_ #[65, 51] ty #[.map (some M), keyV k]).run Yba.prog w = .ok (.tuple #[]) w' ∧ MapIs w' M n (fun k' => if k' = k then none else f k') ∧ w.mapTurned w' M := by
  obtain ⟨D, hown, hD⟩ := h
  obtain ⟨kl, hkl⟩ := key_ex k hk
  obtain ⟨w', hrun, hown', ht⟩ := hown.drop law51 Yba.underlying65 hkl ty
  refine ⟨w', hrun, ⟨_, hown', fun k' kl' hk' => ?_⟩, ht⟩
  by_cases e1 : k' = k
  · subst e1
    rw [hkl] at hk'
    cases hk'
    simp only [if_true]
    exact ⟨atKey_del_same _, has_del_same⟩
  · have hne : kl' ≠ kl := fun e2 => e1 (keyV_inj (law51.inj hk' (e2 ▸ hkl)))
    simp only [if_neg e1]
    rw [atKey_del_other hne, has_del_other hne]
    exact hD k' kl' hk'

end Go.Proofs.Ybulkbgci
