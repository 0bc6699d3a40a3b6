/-
  The contract of cloneBytes (function 11 of the dump).
-/
import Derived.Test.Qxb6617154aModsBytes
namespace Go.Proofs.Qxb6617154aMods.Bytes
open Go.ChangeShapes Go.WideShapes Go.ChangeAt Go.RowKit

theorem info5 : (Trym.prog.info? 5).map (fun i => (i.zero, i.size, i.bytes)) = some (some (.int .u8 0), 1, 1) := by kernel_rfl

theorem made_at (n j : Nat) (h : j < n) : (madeCells #[Value.int .u8 0] n)[j]? = some (.int .u8 0) := by
  rw [← Array.getElem?_toList, toList_madeCells_one]
  simp [h]

/-- the row that cloneBytes fills: n bytes in block g, which may be written -/
def Fill (w : World) (g n : Nat) : Prop := ∀ j, j < n → (∃ z, w.cell? ⟨g, j, none⟩ = some (.int .u8 z)) ∧ w.frozen? ⟨g, j, none⟩ = false

theorem fill_start (w : World) (n : Nat) : Fill (w.alloc (.cells (madeCells #[.int .u8 0] n) 5)) w.heap.size n := by
  intro j hj
  exact ⟨⟨0, by rw [World.cell?_alloc_at _ _ _ _ rfl]; exact made_at n j hj⟩, World.frozen?_alloc_at _ _ _ _ rfl⟩

theorem fill_set {w : World} {g n : Nat} (h : Fill w g n) (k : Nat) (hk : k < n) (z : Int) : Fill (w.setCell ⟨g, k, none⟩ (.int .u8 z)) g n := by
  intro j hj
  obtain ⟨⟨y, hy⟩, hf⟩ := h j hj
  refine ⟨?_, by rw [World.frozen?_setCell]; exact hf⟩
  by_cases e : j = k
  · subst e
    exact ⟨z, World.cell?_setCell_same _ _ _ hy⟩
  · have hne : (⟨g, k, none⟩ : Addr) ≠ ⟨g, j, none⟩ := by
      intro h
      injection h with _ h
      exact e h.symm
    exact ⟨y, (World.cell?_setCell_other _ _ _ _ hne).trans hy⟩

set_option maxHeartbeats 400000 in
theorem clone_any (r : Option Addr) (n c : Nat) (w : World) (hn : n ≤ 1048576) (hnil : r = none → n = 0) (h : Same w.heap.size w r r n) :
    Calls Trym.prog 11 #[.slice r n c] w fun e w' => ∃ r', e = .returned (.slice r' n n) ∧ Same w'.heap.size w' r' r' n ∧ Below w.heap.size w w' := by
  have heq := fun (W : World) => Lib.run_eql_slice_nil (P := Trym.prog) W 26 5 r n c 0 0 Trym.underlying26
  cases r with
  | none =>
    obtain rfl := hnil rfl
    clear hnil h
    go_enter Trym.func11, Trym.ntmps11
    go_wp2
    go_ret
    exact ⟨none, rfl, fun i hi => absurd hi (Nat.not_lt_zero _), Below.refl _ _⟩
  | some x =>
    clear hnil
    have HS : Hid (Same w.heap.size w (some x) (some x) n) := h
    clear h
    have hmk := fun (W : World) => run_make_row' (P := Trym.prog) 26 5 (.int .u8 0) 1 Trym.underlying26 info5 rfl .i64 .i64 n (by omega) (by omega) W
    go_enter Trym.func11, Trym.ntmps11
    go_wp2
    go_loopw [4] (fun i wr => ∃ k : Nat, k ≤ n ∧ i = .int .i64 k ∧ Fill wr w.heap.size n ∧ w.heap.size < wr.heap.size ∧ Below w.heap.size w wr) (fun i _ => n - (intOf i).toNat)
    case atStart => exact ⟨0, Nat.zero_le _, rfl, fill_start w n, by simp, (Below.refl _ _).alloc (Nat.le_refl _) _⟩
    case round =>
      obtain ⟨k, hk, rfl, hF, hsz, hb⟩ := hrel
      clear heq hmk
      by_cases hlt : k < n
      · obtain ⟨g, off, z, hx, _, hg, hcz⟩ := HS.out k hlt
        obtain rfl : x = ⟨g, off, none⟩ := Option.some.inj hx
        have hc1 : wr.cell? ⟨g, off + k, none⟩ = some (.int .u8 z) := (hb.cell (by exact hg)).trans hcz
        obtain ⟨⟨y, hc2⟩, hf2⟩ := hF k hlt
        have HF : Hid (Fill (wr.setCell ⟨w.heap.size, k, none⟩ (.int .u8 z)) w.heap.size n) := fill_set hF k hlt z
        have HB : Hid (Below w.heap.size w (wr.setCell ⟨w.heap.size, k, none⟩ (.int .u8 z))) := hb.setCell (Nat.le_refl _) _
        clear hF hb hcz hx
        go_wp2
        go_roundw
        case rel => exact ⟨k + 1, by omega, by go_num, HF.out, by simpa using hsz, HB.out⟩
        case measure => simp [intOf]; omega
      · go_wp2
        go_ret
        refine ⟨some ⟨w.heap.size, 0, none⟩, rfl, fun j hj => ?_, hb⟩
        obtain ⟨⟨y, hy⟩, _⟩ := hF j hj
        exact ⟨w.heap.size, 0, y, rfl, rfl, hsz, by rw [Nat.zero_add]; exact hy⟩
end Go.Proofs.Qxb6617154aMods.Bytes
