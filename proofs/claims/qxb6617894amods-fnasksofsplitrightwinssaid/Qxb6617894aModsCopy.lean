/-
  'zzc := make([][2]uint64, len(es)); copy(zzc, es)': what the two operations leave.
-/
import Derived.Test.Qxb6617894aModsEntries
import Derived.Laws.IdiomCopy
namespace Go.Proofs.Qxb6617894aMods.Asks
open Go.ChangeShapes Go.WideShapes Go.ChangeAt Go.RowKit

/-- WHAT THE WALK IS TOLD OF A SLICE OF PAIRS THAT CAME IN: it is nil; or it leads to the entries l. -/
def IsPairs (w : World) (a : Option Addr) (len cap : Nat) (l : List (Int × Int)) : Prop :=
  (a = none ∧ len = 0 ∧ cap = 0) ∨ ∃ x, a = some x ∧ l.length = len ∧ Pairs w.heap.size w (some x) l

/-- the cells of a list of entries -/
def cellsOf : List (Int × Int) → List Value
  | [] => []
  | p :: l => .int .u64 p.1 :: .int .u64 p.2 :: cellsOf l

theorem cellsOf_length : ∀ l, (cellsOf l).length = l.length * 2
  | [] => rfl
  | _ :: l => by
    have := cellsOf_length l
    simp [cellsOf]
    omega

theorem cellsOf_fst : ∀ (l : List (Int × Int)) (i : Nat) (p : Int × Int), l[i]? = some p → (cellsOf l)[i * 2]? = some (.int .u64 p.1)
  | [], i, p, h => by simp at h
  | q :: l, 0, p, h => by simp at h; subst h; rfl
  | q :: l, i + 1, p, h => by
    have := cellsOf_fst l i p (by simpa using h)
    rw [show (i + 1) * 2 = i * 2 + 1 + 1 from by omega]
    simpa [cellsOf] using this

theorem cellsOf_snd : ∀ (l : List (Int × Int)) (i : Nat) (p : Int × Int), l[i]? = some p → (cellsOf l)[i * 2 + 1]? = some (.int .u64 p.2)
  | [], i, p, h => by simp at h
  | q :: l, 0, p, h => by simp at h; subst h; rfl
  | q :: l, i + 1, p, h => by
    have := cellsOf_snd l i p (by simpa using h)
    rw [show (i + 1) * 2 + 1 = i * 2 + 1 + 1 + 1 from by omega]
    simpa [cellsOf] using this

theorem cellsOf_at : ∀ (l : List (Int × Int)) (j : Nat) (v : Value), (cellsOf l)[j]? = some v → ∃ i p, l[i]? = some p ∧ ((j = i * 2 ∧ v = .int .u64 p.1) ∨ (j = i * 2 + 1 ∧ v = .int .u64 p.2))
  | [], j, v, h => by simp [cellsOf] at h
  | q :: l, 0, v, h => ⟨0, q, rfl, Or.inl ⟨rfl, by simpa [cellsOf] using h.symm⟩⟩
  | q :: l, 1, v, h => ⟨0, q, rfl, Or.inr ⟨rfl, by simpa [cellsOf] using h.symm⟩⟩
  | q :: l, j + 2, v, h => by
    obtain ⟨i, p, hp, h'⟩ := cellsOf_at l j v (by simpa [cellsOf] using h)
    refine ⟨i + 1, p, by simpa using hp, ?_⟩
    rcases h' with ⟨rfl, hv⟩ | ⟨rfl, hv⟩
    · exact Or.inl ⟨by omega, hv⟩
    · exact Or.inr ⟨by omega, hv⟩

theorem cellsOf_one (l : List (Int × Int)) : ∀ v ∈ cellsOf l, v.oneCell' = true := by
  intro v hv
  obtain ⟨j, hj⟩ := List.getElem?_of_mem hv
  obtain ⟨i, p, _, ⟨_, rfl⟩ | ⟨_, rfl⟩⟩ := cellsOf_at l j v hj <;> rfl

theorem add_plain (g off j : Nat) : (⟨g, off, none⟩ : Addr).add j = ⟨g, off + j, none⟩ := by
  unfold Addr.add
  split
  · rename_i h; subst h; rfl
  · rfl

/-- 'copy' at elements of two cells: all is read before anything is written -/
theorem run_copy2 (w : World) (ty : TypeId) (b n dCap : Nat) (a : Addr) (sCap : Nat) (cs : List Value)
    (hn : cs.length = n * 2) (hsrc : ∀ j v, cs[j]? = some v → w.cell? (a.add j) = some v) (hc : ∀ j, j < cs.length → (w.cell? ⟨b, 0 + j, none⟩).isSome = true)
    (hf : ∀ j, j < cs.length → w.frozen? ⟨b, 0 + j, none⟩ = false) (h1 : ∀ v ∈ cs, v.oneCell' = true) :
    (Builtin.copy_ #[22, 22] ty #[.slice (some ⟨b, 0, none⟩) n dCap, .slice (some a) n sCap]).run Trym.prog w = .ok (goInt n) (w.setCells b 0 cs) := by
  have hl := run_loadCells_list (P := Trym.prog) w a cs hsrc
  have hst := run_storeCells_cells (P := Trym.prog) b 0 cs 0 w (by simpa using hc) (by simpa using hf) h1
  have hs : (Trym.prog.info? 33).map (·.size) = some 2 := by kernel_rfl
  cases hq : Trym.prog.info? 33 with
  | none => simp [hq] at hs
  | some i =>
    have hi : i.size = 2 := by simpa [hq] using hs
    simp [Builtin.copy_, run_underlying Trym.underlying22, Builtin.lenOf, Builtin.firstCells, sizeOf, typeInfo, hq, hi, ← hn, hl, hst]

theorem below_setCells {B : Nat} {a : World} (b : Nat) (hB : B ≤ b) : ∀ (vs : List Value) (o : Nat) (w : World), Below B a w → Below B a (w.setCells b o vs)
  | [], _, _, h => h
  | v :: r, o, w, h => below_setCells b hB r (o + 1) _ (h.setCell (by exact hB) v)

theorem copied (x : Addr) (c : Nat) (l : List (Int × Int)) (w : World) (h : Pairs w.heap.size w (some x) l) :
    ∃ w1, (∀ ty, (Builtin.copy_ #[22, 22] ty #[.slice (some ⟨w.heap.size, 0, none⟩) l.length l.length, .slice (some x) l.length c]).run Trym.prog (w.alloc (.cells (madeCells #[.int .u64 0, .int .u64 0] (l.length * 2)) 33)) = .ok (goInt l.length) w1) ∧
      Pairs w1.heap.size w1 (some ⟨w.heap.size, 0, none⟩) l ∧ Below w.heap.size w w1 := by
  have hlen := cellsOf_length l
  have hcell : ∀ j, j < (cellsOf l).length → (w.alloc (.cells (madeCells #[.int .u64 0, .int .u64 0] (l.length * 2)) 33)).cell? ⟨w.heap.size, 0 + j, none⟩ = some (.int .u64 0) := by
    intro j hj
    rw [World.cell?_alloc_at _ _ _ _ rfl, Nat.zero_add]
    exact made_at _ _ (by omega)
  refine ⟨(w.alloc (.cells (madeCells #[.int .u64 0, .int .u64 0] (l.length * 2)) 33)).setCells w.heap.size 0 (cellsOf l), fun ty => ?_, ?_, ?_⟩
  · refine run_copy2 _ ty w.heap.size l.length l.length x c (cellsOf l) hlen ?_ (fun j hj => by rw [hcell j hj]; rfl) (fun j hj => World.frozen?_alloc_at _ _ _ _ rfl) (cellsOf_one l)
    intro j v hv
    obtain ⟨i, p, hp, hv'⟩ := cellsOf_at l j v hv
    obtain ⟨_, _, g, off, hr, hg, h1, h2⟩ := h i p hp
    obtain rfl := Option.some.inj hr
    rw [add_plain]
    rcases hv' with ⟨rfl, rfl⟩ | ⟨rfl, rfl⟩
    · exact (World.cell?_alloc_past _ _ _ hg).trans h1
    · rw [← Nat.add_assoc]
      exact (World.cell?_alloc_past _ _ _ hg).trans h2
  · have hsz := (below_setCells (B := w.heap.size) w.heap.size (Nat.le_refl _) (cellsOf l) 0 _ (Below.refl _ (w.alloc (.cells (madeCells #[.int .u64 0, .int .u64 0] (l.length * 2)) 33)))).size
    have hin := World.cell?_setCells_in w.heap.size (cellsOf l) 0 (w.alloc (.cells (madeCells #[.int .u64 0, .int .u64 0] (l.length * 2)) 33)) (fun j hj => by rw [hcell j hj]; rfl)
    intro i p hp
    have hi : i < l.length := (List.getElem?_eq_some_iff.1 hp).1
    obtain ⟨f1, f2, _⟩ := h i p hp
    refine ⟨f1, f2, w.heap.size, 0, rfl, ?_, ?_, ?_⟩
    · simp only [World.size_alloc] at hsz
      omega
    · rw [hin (i * 2) (by omega), ← List.getElem?_eq_getElem]
      exact cellsOf_fst l i p hp
    · rw [Nat.add_assoc, hin (i * 2 + 1) (by omega), ← List.getElem?_eq_getElem]
      exact cellsOf_snd l i p hp
  · exact below_setCells w.heap.size (Nat.le_refl _) _ _ _ ((Below.refl _ _).alloc (Nat.le_refl _) _)
end Go.Proofs.Qxb6617894aMods.Asks
