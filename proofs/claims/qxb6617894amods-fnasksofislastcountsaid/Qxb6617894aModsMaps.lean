/-
  The maps of the two laws, told by plain functions: map[ID]ID (type 26), map[uint64]bool (type 28).
-/
import Derived.Test.Qxb6617894aModsRows
import Derived.Test.Qxb6617894aModsPlain
import Derived.WalkKit
import Derived.ProofKit
import Derived.Maps.Own
import Derived.Maps.OwnSet
namespace Go.Proofs.Qxb6617894aMods.Asks
open Go.ChangeShapes Go.WideShapes Go.ChangeAt Go.RowKit
open Go.Maps (Keyed)

theorem law30 : Keyed Trym.prog 30 := Maps.int_keyed Trym.underlying30
theorem law29 : Keyed Trym.prog 29 := Maps.int_keyed Trym.underlying29
theorem zero30 (w : World) : (zeroValue 30).run Trym.prog w = .ok (.int .u64 0) w := by kernel_rfl
theorem zero4 (w : World) : (zeroValue 4).run Trym.prog w = .ok (.bool false) w := by kernel_rfl

/-- a number that a uint64 can hold -/
def Fits (x : Int) : Prop := (Lit.int .u64 x).wf = true

theorem fits0 : Fits 0 := by unfold Fits; decide

theorem key30 {x : Int} (h : Fits x) : keyOf Trym.prog 30 (.int .u64 x) = some (.int .u64 x) := Maps.keyOf_int_mk Trym.underlying30 h
theorem key29 {x : Int} (h : Fits x) : keyOf Trym.prog 29 (.int .u64 x) = some (.int .u64 x) := Maps.keyOf_int_mk Trym.underlying29 h

theorem isKey (x : Int) : WideAt.IsKeyLit (.int .u64 x) := trivial

theorem lit_inj {H : Type} {q : IntKind} {a b : Int} (h : (DataW.lit (.int q a) : DataW H) = .lit (.int q b)) : a = b := by
  injection h with h
  injection h

theorem lit_ne {a b : Int} (h : a ≠ b) : (Lit.int .u64 a) ≠ Lit.int .u64 b := by
  intro e
  injection e with _ e
  exact h e

/-- BLOCK b IS A map[ID]ID of at most N entries: at x it holds 'm x'; it has s entries. -/
def MapIs (w : World) (b N : Nat) (m : Int → Option Int) (s : Nat) : Prop :=
  ∃ D : DataW Unit, w.ownsMap Trym.prog 30 (plainElem Trym.prog 30) b N D ∧ Maps.size D = s ∧
    ∀ x, Maps.has D (.int .u64 x) = (m x).isSome ∧ D.atKey (.int .u64 x) (.lit (.int .u64 0)) = .lit (.int .u64 ((m x).getD 0))

theorem MapIs.made (w : World) : MapIs (w.alloc (.map #[] 0)) w.heap.size 0 (fun _ => none) 0 :=
  ⟨.map [], World.ownsMap_made _ _ _ _, rfl, fun _ => ⟨rfl, rfl⟩⟩

theorem MapIs.look_ok {w : World} {b N : Nat} {m : Int → Option Int} {s : Nat} (h : MapIs w b N m s) {x : Int} (hx : Fits x) :
    (Instr.lookup 26 (.map (some b)) (.int .u64 x) true).run Trym.prog w = .ok (.tuple #[.int .u64 ((m x).getD 0), .bool (m x).isSome]) w := by
  obtain ⟨D, hown, _, hm⟩ := h
  obtain ⟨v, ps, hrun, hv⟩ := hown.look_ok law30 Trym.underlying26 (zero30 w) (plainElem_int Trym.underlying30 fits0) (key30 hx)
  obtain ⟨c, rfl, hc, _⟩ := plainElem_int_inv Trym.underlying30 hv
  have hc1 := congrArg Prod.fst hc
  rw [(hm x).2] at hc1
  rw [hrun, (hm x).1, lit_inj hc1]

theorem MapIs.look {w : World} {b N : Nat} {m : Int → Option Int} {s : Nat} (h : MapIs w b N m s) {x : Int} (hx : Fits x) :
    (Instr.lookup 26 (.map (some b)) (.int .u64 x) false).run Trym.prog w = .ok (.int .u64 ((m x).getD 0)) w := by
  obtain ⟨D, hown, _, hm⟩ := h
  obtain ⟨c, hrun, hc, _⟩ := hown.lookup_int law30 Trym.underlying26 Trym.underlying30 (zero30 w) (key30 hx)
  rw [(hm x).2] at hc
  rw [hrun, lit_inj hc]

theorem MapIs.len {w : World} {b N : Nat} {m : Int → Option Int} {s : Nat} (h : MapIs w b N m s) (ty : TypeId) :
    (Builtin.len_ #[26] ty #[.map (some b)]).run Trym.prog w = .ok (.int .i64 s) w := by
  obtain ⟨D, hown, hs, _⟩ := h
  rw [hown.len Trym.underlying26 ty, hs]

theorem MapIs.put {w : World} {b N : Nat} {m : Int → Option Int} {s : Nat} (h : MapIs w b N m s) (hN : N < maxLen) {x v : Int} (hx : Fits x) (hv : Fits v) :
    ∃ w', (Instr.mapUpdate 26 (.map (some b)) (.int .u64 x) (.int .u64 v)).run Trym.prog w = .ok () w' ∧ MapIs w' b (N + 1) (upd m x v) (if (m x).isSome then s else s + 1) ∧ w.grownBy w' (some b) := by
  obtain ⟨D, hown, hs, hm⟩ := h
  obtain ⟨w', hrun, hown', hg⟩ := hown.update law30 Trym.underlying26 hN (key30 hx) (plainElem_int Trym.underlying30 hv)
  refine ⟨w', hrun, ⟨_, hown', ?_, ?_⟩, hg⟩
  · rw [Maps.size_put (hown.tidy law30), (hm x).1, hs]
  · intro y
    by_cases e : y = x
    · subst e
      rw [Maps.has_put_same hown.isMap (isKey y), Maps.atKey_put_same hown.isMap (isKey y), upd_same]
      exact ⟨rfl, rfl⟩
    · rw [Maps.has_put_other (lit_ne e), Maps.atKey_put_other (lit_ne e), upd_other _ _ _ _ e]
      exact hm y

theorem MapIs.kept {w w' : World} {b N : Nat} {m : Int → Option Int} {s : Nat} (h : MapIs w b N m s) {B : Nat} (hb : Below B w w') (hB : b < B) : MapIs w' b N m s := by
  obtain ⟨D, ⟨es, clock, hh, r⟩, hs, hm⟩ := h
  exact ⟨D, ⟨es, clock, (hb.block b hB).trans hh, r⟩, hs, hm⟩

theorem MapIs.grown {w w' : World} {b N : Nat} {m : Int → Option Int} {s : Nat} (h : MapIs w b N m s) {row : Option Nat} (hg : w.grownBy w' row) (hne : some b ≠ row) : MapIs w' b N m s := by
  obtain ⟨D, hown, r⟩ := h
  exact ⟨D, hown.kept hg hne, r⟩

theorem MapIs.lt {w : World} {b N : Nat} {m : Int → Option Int} {s : Nat} (h : MapIs w b N m s) : b < w.heap.size := by
  obtain ⟨D, hown, _⟩ := h
  exact hown.lt

theorem MapIs.mono {w : World} {b N N' : Nat} {m : Int → Option Int} {s : Nat} (h : MapIs w b N m s) (hN : N ≤ N') : MapIs w b N' m s := by
  obtain ⟨D, hown, r⟩ := h
  exact ⟨D, hown.mono hN, r⟩

/-! ### the set -/

theorem plainElem_bool_inv {H : Type} {P : Program} {e : TypeId} (he : P.underlying e = some .bool) {v : Value} {z : DataW H × List MemPlace} (h : plainElem P e v = some z) : ∃ x, v = .bool x ∧ z = (.lit (.bool x), []) := by
  unfold plainElem at h
  rw [he] at h
  cases v <;> simp at h
  exact ⟨_, rfl, h.symm⟩

/-- BLOCK b IS A map[uint64]bool of at most N entries, all true: x is a key just if 'S x'. -/
def SetIs (w : World) (b N : Nat) (S : Int → Bool) : Prop :=
  ∃ D : DataW Unit, w.ownsMap Trym.prog 29 (plainElem Trym.prog 4) b N D ∧ ∀ x, D.atKey (.int .u64 x) (.lit (.bool false)) = .lit (.bool (S x))

theorem SetIs.made (w : World) : SetIs (w.alloc (.map #[] 0)) w.heap.size 0 (fun _ => false) :=
  ⟨.map [], World.ownsMap_made _ _ _ _, fun _ => rfl⟩

theorem SetIs.look {w : World} {b N : Nat} {S : Int → Bool} (h : SetIs w b N S) {x : Int} (hx : Fits x) :
    (Instr.lookup 28 (.map (some b)) (.int .u64 x) false).run Trym.prog w = .ok (.bool (S x)) w := by
  obtain ⟨D, hown, hm⟩ := h
  obtain ⟨v, ps, hrun, hv⟩ := hown.lookup law29 Trym.underlying28 (zero4 w) (plainElem_bool Trym.underlying4 false) (key29 hx)
  obtain ⟨c, rfl, hc⟩ := plainElem_bool_inv Trym.underlying4 hv
  have hc1 := congrArg Prod.fst hc
  rw [hm x] at hc1
  injection hc1 with hc1
  injection hc1 with hc1
  rw [hrun, hc1]

theorem SetIs.put {w : World} {b N : Nat} {S : Int → Bool} (h : SetIs w b N S) (hN : N < maxLen) {x : Int} (hx : Fits x) :
    ∃ w', (Instr.mapUpdate 28 (.map (some b)) (.int .u64 x) (.bool true)).run Trym.prog w = .ok () w' ∧ SetIs w' b (N + 1) (fun y => if y = x then true else S y) ∧ w.grownBy w' (some b) := by
  obtain ⟨D, hown, hm⟩ := h
  obtain ⟨w', hrun, hown', hg⟩ := hown.update law29 Trym.underlying28 hN (key29 hx) (plainElem_bool Trym.underlying4 true)
  refine ⟨w', hrun, ⟨_, hown', ?_⟩, hg⟩
  intro y
  by_cases e : y = x
  · subst e
    rw [Maps.atKey_put_same hown.isMap (isKey y)]
    show _ = DataW.lit (Lit.bool (if y = y then true else S y))
    rw [if_pos rfl]
  · rw [Maps.atKey_put_other (lit_ne e)]
    show _ = DataW.lit (Lit.bool (if y = x then true else S y))
    rw [if_neg e]
    exact hm y

theorem SetIs.kept {w w' : World} {b N : Nat} {S : Int → Bool} (h : SetIs w b N S) {B : Nat} (hb : Below B w w') (hB : b < B) : SetIs w' b N S := by
  obtain ⟨D, ⟨es, clock, hh, r⟩, hm⟩ := h
  exact ⟨D, ⟨es, clock, (hb.block b hB).trans hh, r⟩, hm⟩

theorem SetIs.congr {w : World} {b N : Nat} {S S' : Int → Bool} (h : SetIs w b N S) (hS : ∀ x, S x = S' x) : SetIs w b N S' := by
  obtain ⟨D, hown, hm⟩ := h
  exact ⟨D, hown, fun x => by rw [← hS]; exact hm x⟩

theorem SetIs.mono {w : World} {b N N' : Nat} {S : Int → Bool} (h : SetIs w b N S) (hN : N ≤ N') : SetIs w b N' S := by
  obtain ⟨D, hown, r⟩ := h
  exact ⟨D, hown.mono hN, r⟩

theorem SetIs.lt {w : World} {b N : Nat} {S : Int → Bool} (h : SetIs w b N S) : b < w.heap.size := by
  obtain ⟨D, hown, _⟩ := h
  exact hown.lt

/-- 'make(map[K]V, n)' -/
theorem run_makeMap_hint (t k e : TypeId) (ht : Trym.prog.underlying t = some (.map k e)) (n : Int) (w : World) :
    (Instr.makeMap t (some (.int .i64 n))).run Trym.prog w = .ok (.map (some w.heap.size)) (w.alloc (.map #[] 0)) := by
  simp [Instr.makeMap, run_underlying ht, asInt]
  rfl
end Go.Proofs.Qxb6617894aMods.Asks
