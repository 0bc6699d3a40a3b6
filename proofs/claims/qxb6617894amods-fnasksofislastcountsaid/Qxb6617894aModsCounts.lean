/-
  The contracts of countsOf, ZZCountsOf (functions 9, 6 of the dump).
-/
import Derived.Test.Qxb6617894aModsEntries
namespace Go.Proofs.Qxb6617894aMods.Asks
open Go.ChangeShapes Go.WideShapes Go.ChangeAt Go.RowKit

theorem part_alloc {w : World} {g k : Nat} {l : List (Int × Int)} (h : Part w g k l) (hg : g < w.heap.size) (o : Obj) : Part (w.alloc o) g k l := by
  intro i p hp
  obtain ⟨⟨f1, f2⟩, a, b, h1, h2, hab⟩ := h i p hp
  exact ⟨⟨(World.frozen?_alloc_past _ _ _ hg).trans f1, (World.frozen?_alloc_past _ _ _ hg).trans f2⟩, a, b, (World.cell?_alloc_past _ _ _ hg).trans h1, (World.cell?_alloc_past _ _ _ hg).trans h2, hab⟩

set_option maxHeartbeats 400000 in
theorem counts_any (r : Option Addr) (c : Nat) (l : List (Int × Int)) (w : World) (hn : l.length ≤ 65536) (h : Pairs w.heap.size w r l) :
    Calls Trym.prog 9 #[.slice r l.length c] w fun e w' => ∃ g, e = .returned (.slice (some ⟨g, 0, none⟩) l.length l.length) ∧ Pairs w'.heap.size w' (some ⟨g, 0, none⟩) l ∧ Below w.heap.size w w' := by
  have hmk := fun (W : World) => run_make2 24 32 Trym.underlying24 info32 l.length hn W
  have HP : Hid (Pairs w.heap.size w r l) := h
  clear h
  have HL : Hid (∀ k, k < l.length → ∃ p, l[k]? = some p) := fun k hk => ⟨l[k], List.getElem?_eq_getElem hk⟩
  have HS : Hid (Part (w.alloc (.cells (madeCells #[.int .u64 0, .int .u64 0] (l.length * 2)) 32)) w.heap.size 0 l) := part_start w 32 l
  have HE : Hid (∀ wr, Part wr w.heap.size l.length l → w.heap.size < wr.heap.size → Pairs wr.heap.size wr (some ⟨w.heap.size, 0, none⟩) l) :=
    fun wr hp hg => part_end hp (Nat.le_refl _) hg (fun i p hp => ⟨(HP.out i p hp).1, (HP.out i p hp).2.1⟩)
  have HT : Hid (∀ (wr : World) k p, l[k]? = some p → Part wr w.heap.size k l → Part ((wr.setCell ⟨w.heap.size, k * 2, none⟩ (.int .u64 p.1)).setCell ⟨w.heap.size, k * 2 + 1, none⟩ (.int .u64 p.2)) w.heap.size (k + 1) l) := fun wr k p hp h => part_set h p hp
  have HQ : Hid (∀ k p, l[k]? = some p → ∃ g off, r = some ⟨g, off, none⟩ ∧ g < w.heap.size ∧ w.cell? ⟨g, off + k * 2, none⟩ = some (.int .u64 p.1) ∧ w.cell? ⟨g, off + k * 2 + 1, none⟩ = some (.int .u64 p.2)) := fun k p hp => (HP.out k p hp).2.2
  generalize hN : l.length = n at *
  clear hN
  go_enter Trym.func9, Trym.ntmps9
  go_wp2
  go_loopw [11] (fun i wr => ∃ k : Nat, k ≤ n ∧ i = .int .i64 k ∧ Part wr w.heap.size k l ∧ w.heap.size < wr.heap.size ∧ Below w.heap.size w wr) (fun i _ => n - (intOf i).toNat)
  case atStart => exact ⟨0, Nat.zero_le _, rfl, HS.out, by simp, (Below.refl _ _).alloc (Nat.le_refl _) _⟩
  case round =>
    obtain ⟨k, hk, rfl, hp, hsz, hb⟩ := hrel
    clear hmk
    by_cases hlt : k < n
    · have hlt' : (k : Int) < (n : Int) := by omega
      obtain ⟨q, hq⟩ := HL.out k hlt
      obtain ⟨g, off, rfl, hg, hc1, hc2⟩ := HQ.out k q hq
      have hc1' : wr.cell? ⟨g, off + k * 2, none⟩ = some (.int .u64 q.1) := (hb.cell (by exact hg)).trans hc1
      have hc2' : wr.cell? ⟨g, off + k * 2 + 1, none⟩ = some (.int .u64 q.2) := (hb.cell (by exact hg)).trans hc2
      obtain ⟨⟨hf1, hf2⟩, a, b, hd1, hd2, _⟩ := hp k q hq
      have HP' := HT.out wr k q hq hp
      have hb2 : Below w.heap.size w ((wr.setCell ⟨w.heap.size, k * 2, none⟩ (.int .u64 q.1)).setCell ⟨w.heap.size, k * 2 + 1, none⟩ (.int .u64 q.2)) := (hb.setCell (by exact Nat.le_refl _) _).setCell (by exact Nat.le_refl _) _
      have HB2 : Hid (∀ o, Below w.heap.size w (((wr.setCell ⟨w.heap.size, k * 2, none⟩ (.int .u64 q.1)).setCell ⟨w.heap.size, k * 2 + 1, none⟩ (.int .u64 q.2)).alloc o)) := fun o => hb2.alloc (by simp; omega) o
      have HP2 : Hid (∀ o, Part (((wr.setCell ⟨w.heap.size, k * 2, none⟩ (.int .u64 q.1)).setCell ⟨w.heap.size, k * 2 + 1, none⟩ (.int .u64 q.2)).alloc o) w.heap.size (k + 1) l) := fun o => part_alloc HP' (by simpa using hsz) o
      clear hc1 hc2 hq hp hb HP' hb2
      obtain ⟨x, y⟩ := q
      go_wp2
      go_roundw
      case rel => exact ⟨k + 1, by omega, by go_num, HP2.out _, by simp; omega, HB2.out _⟩
      case measure => simp [intOf]; omega
    · obtain rfl : k = n := by omega
      go_wp2
      go_ret
      exact ⟨w.heap.size, rfl, HE.out wr hp hsz, hb⟩

theorem zzcounts_any (r : Option Addr) (c : Nat) (l : List (Int × Int)) (w : World) (hn : l.length ≤ 65536) (h : Pairs w.heap.size w r l) :
    Calls Trym.prog 6 #[.slice r l.length c] w fun e w' => ∃ g, e = .returned (.slice (some ⟨g, 0, none⟩) l.length l.length) ∧ Pairs w'.heap.size w' (some ⟨g, 0, none⟩) l ∧ Below w.heap.size w w' := by
  have HP : Hid (Pairs w.heap.size w r l) := h
  clear h
  go_enter Trym.func6, Trym.ntmps6
  go_wp2_with fail
  refine (entries_any r c l w hn HP.out).mono ?_
  rintro e w1 ⟨g, rfl, hp1, hb1⟩
  have HP1 : Hid (Pairs w1.heap.size w1 (some ⟨g, 0, none⟩) l) := hp1
  clear hp1
  go_wp2_with fail
  refine (counts_any _ _ l w1 hn HP1.out).mono ?_
  rintro e w2 ⟨g2, rfl, hp2, hb2⟩
  have HM : Hid (Pairs w2.heap.size w2 (some ⟨g2, 0, none⟩) l) := hp2
  clear hp2
  go_wp2
  go_ret
  exact ⟨g2, rfl, HM.out, hb1.trans (hb2.mono hb1.size)⟩

end Go.Proofs.Qxb6617894aMods.Asks
