/-
  A slice of pairs among the arguments ([][2]uint64, type 22), opened.
-/
import Derived.Test.Qxb6617894aModsCopy
import Derived.OpenShut
import Derived.Deep.Slices
namespace Go.Proofs.Qxb6617894aMods.Asks
open Go.ChangeShapes Go.WideShapes Go.ChangeAt Go.RowKit

theorem cells33 : Trym.prog.cellsOf 33 = 2 := by kernel_rfl
theorem cells29 : Trym.prog.cellsOf 29 = 1 := by kernel_rfl

theorem open_pairs {H : Type} {enc : TypeId × Value → H} {w : World} {base : Nat} {spare : Nat → Bool} {held : Bool} {fuel : Nat} {a : Option Addr} {len cap : Nat} {x : DataW H × List MemPlace}
    (h : DataW.trod enc Trym.prog w base spare held fuel 22 [.slice a len cap] = some x) : ∃ l, IsPairs w a len cap l := by
  rcases Deep.open_slice Trym.underlying22 h with ⟨h0, _⟩ | ⟨y, len', cap', m, n, D, Pl, hcs, _, hl, _, hmm, _, hx⟩
  · simp at h0
    exact ⟨[], Or.inl ⟨h0.1, h0.2.1, h0.2.2⟩⟩
  · simp at hcs
    obtain ⟨rfl, rfl, rfl⟩ := hcs
    have hlm : len ≤ m := by rw [hmm]; split <;> omega
    have each : ∀ i, i < len → ∃ q : Int × Int, Fits q.1 ∧ Fits q.2 ∧ w.cell? (y.add (i * 2)) = some (.int .u64 q.1) ∧ w.cell? (y.add (i * 2 + 1)) = some (.int .u64 q.2) := by
      intro i hi
      obtain ⟨cs', h1, h2⟩ := hx i (by omega)
      rw [cells33] at h1
      obtain ⟨_, hlen, hcell⟩ := World.cells?_some h1
      obtain ⟨xs, k, _, _, _, hxl, hf⟩ := DataW.trod_array Trym.underlying33 h2
      match xs, hxl, cs', hlen with
      | [y0, y1], _, [v0, v1], _ =>
        have g0 := hf 0 (by omega)
        have g1 := hf 1 (by omega)
        simp [cells29] at g0 g1
        have e0 := hcell 0 (by omega)
        have e1 := hcell 1 (by omega)
        rw [Deep.add_add] at e0 e1
        obtain ⟨a0, hv0, _, w0⟩ := DataW.trod_int Trym.underlying29 g0
        obtain ⟨a1, hv1, _, w1⟩ := DataW.trod_int Trym.underlying29 g1
        simp at hv0 hv1
        subst hv0
        subst hv1
        exact ⟨(a0, a1), w0, w1, by simpa using e0, by simpa using e1⟩
    obtain ⟨q, hq⟩ := Deep.choose_lt each
    refine ⟨(List.range len).map q, Or.inr ⟨y, rfl, by simp, ?_⟩⟩
    intro i p hp
    have hi : i < len := by
      have := (List.getElem?_eq_some_iff.1 hp).1
      simpa using this
    obtain rfl : q i = p := by simpa [hi] using hp
    obtain ⟨f1, f2, h1, h2⟩ := hq i hi
    obtain ⟨g, off, spot⟩ := y
    have hspot : spot = none := by
      have h0 := (hq 0 (by omega)).2.2.1
      have := World.cell?_spot h0
      simpa [Addr.add] using this
    subst hspot
    rw [add_plain] at h1 h2
    exact ⟨f1, f2, g, off, rfl, World.block_lt_of_cell? w _ h1, h1, by rw [Nat.add_assoc]; exact h2⟩
end Go.Proofs.Qxb6617894aMods.Asks
