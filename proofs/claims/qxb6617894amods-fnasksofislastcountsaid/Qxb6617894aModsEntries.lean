/-
  Rows of pairs of numbers ([][2]uint64, []mapEntry, []Count); the contract of zzEntries (function 10 of the dump).
-/
import Derived.Test.Qxb6617894aModsMaps
import Derived.WalkSpells
import Derived.WalkLawsBesides
import Derived.Outline
import Derived.Deep.QuietTactic
import Derived.Deep.OwnRows
import Derived.BigQuiet
import Derived.RegionTactic
import Derived.BigRegion
namespace Go.Proofs.Qxb6617894aMods.Asks
open Go.ChangeShapes Go.WideShapes Go.ChangeAt Go.RowKit

/-- at r lie the entries l, two cells each; they can be read; below block B -/
def Pairs (B : Nat) (w : World) (r : Option Addr) (l : List (Int × Int)) : Prop :=
  ∀ (i : Nat) (p : Int × Int), l[i]? = some p → Fits p.1 ∧ Fits p.2 ∧
    ∃ g off, r = some ⟨g, off, none⟩ ∧ g < B ∧ w.cell? ⟨g, off + i * 2, none⟩ = some (.int .u64 p.1) ∧ w.cell? ⟨g, off + i * 2 + 1, none⟩ = some (.int .u64 p.2)

theorem Pairs.below {B B' : Nat} {w w' : World} {r : Option Addr} {l : List (Int × Int)} (h : Pairs B w r l) (hb : Below B' w w') (hB : B ≤ B') : Pairs B w' r l := by
  intro i p hp
  obtain ⟨f1, f2, g, off, hr, hg, h1, h2⟩ := h i p hp
  exact ⟨f1, f2, g, off, hr, hg, (hb.cell (by exact Nat.lt_of_lt_of_le hg hB)).trans h1, (hb.cell (by exact Nat.lt_of_lt_of_le hg hB)).trans h2⟩

theorem Pairs.nil (B : Nat) (w : World) (r : Option Addr) : Pairs B w r [] := by
  intro i p hp
  simp at hp

/-- a row that is being filled: block g; the first k entries are laid -/
def Part (w : World) (g k : Nat) (l : List (Int × Int)) : Prop :=
  ∀ (i : Nat) (p : Int × Int), l[i]? = some p → (w.frozen? ⟨g, i * 2, none⟩ = false ∧ w.frozen? ⟨g, i * 2 + 1, none⟩ = false) ∧
    ∃ a b, w.cell? ⟨g, i * 2, none⟩ = some (.int .u64 a) ∧ w.cell? ⟨g, i * 2 + 1, none⟩ = some (.int .u64 b) ∧ (i < k → a = p.1 ∧ b = p.2)

theorem made_at (n j : Nat) (h : j < n) : (madeCells #[Value.int .u64 0, .int .u64 0] n)[j]? = some (.int .u64 0) := by
  unfold madeCells
  rw [Array.getElem?_map, Array.getElem?_range, if_pos h, Option.map_some]
  have h2 : j % 2 = 0 ∨ j % 2 = 1 := by omega
  rcases h2 with h2 | h2 <;> simp [h2]

theorem part_start (w : World) (T : TypeId) (l : List (Int × Int)) : Part (w.alloc (.cells (madeCells #[.int .u64 0, .int .u64 0] (l.length * 2)) T)) w.heap.size 0 l := by
  intro i p hp
  have hi : i < l.length := (List.getElem?_eq_some_iff.1 hp).1
  refine ⟨⟨World.frozen?_alloc_at _ _ _ _ rfl, World.frozen?_alloc_at _ _ _ _ rfl⟩, 0, 0, ?_, ?_, fun h => absurd h (Nat.not_lt_zero _)⟩
  · rw [World.cell?_alloc_at _ _ _ _ rfl]
    exact made_at _ _ (by omega)
  · rw [World.cell?_alloc_at _ _ _ _ rfl]
    exact made_at _ _ (by omega)

theorem addr_ne {g a b : Nat} (h : a ≠ b) : (⟨g, a, none⟩ : Addr) ≠ ⟨g, b, none⟩ := by
  intro e
  injection e with _ e
  exact h e

theorem part_set {w : World} {g k : Nat} {l : List (Int × Int)} (h : Part w g k l) (p : Int × Int) (hp : l[k]? = some p) :
    Part ((w.setCell ⟨g, k * 2, none⟩ (.int .u64 p.1)).setCell ⟨g, k * 2 + 1, none⟩ (.int .u64 p.2)) g (k + 1) l := by
  intro i q hq
  obtain ⟨⟨f1, f2⟩, a, b, h1, h2, hab⟩ := h i q hq
  refine ⟨⟨by rw [World.frozen?_setCell, World.frozen?_setCell]; exact f1, by rw [World.frozen?_setCell, World.frozen?_setCell]; exact f2⟩, ?_⟩
  by_cases e : i = k
  · subst e
    obtain rfl : p = q := by rw [hp] at hq; exact Option.some.inj hq
    refine ⟨p.1, p.2, ?_, ?_, fun _ => ⟨rfl, rfl⟩⟩
    · rw [World.cell?_setCell_other _ _ _ _ (addr_ne (by omega))]
      exact World.cell?_setCell_same _ _ _ h1
    · exact World.cell?_setCell_same _ _ _ ((World.cell?_setCell_other _ _ _ _ (addr_ne (by omega))).trans h2)
  · refine ⟨a, b, ?_, ?_, fun hi => hab (by omega)⟩
    · rw [World.cell?_setCell_other _ _ _ _ (addr_ne (by omega)), World.cell?_setCell_other _ _ _ _ (addr_ne (by omega))]
      exact h1
    · rw [World.cell?_setCell_other _ _ _ _ (addr_ne (by omega)), World.cell?_setCell_other _ _ _ _ (addr_ne (by omega))]
      exact h2

theorem part_end {w : World} {g k : Nat} {l : List (Int × Int)} (h : Part w g k l) (hk : l.length ≤ k) (hg : g < w.heap.size) (hf : ∀ (i : Nat) (p : Int × Int), l[i]? = some p → Fits p.1 ∧ Fits p.2) : Pairs w.heap.size w (some ⟨g, 0, none⟩) l := by
  intro i p hp
  have hi : i < l.length := (List.getElem?_eq_some_iff.1 hp).1
  obtain ⟨_, a, b, h1, h2, hab⟩ := h i p hp
  obtain ⟨rfl, rfl⟩ := hab (by omega)
  obtain ⟨f1, f2⟩ := hf i p hp
  exact ⟨f1, f2, g, 0, rfl, hg, by rw [Nat.zero_add]; exact h1, by rw [Nat.zero_add]; exact h2⟩

theorem info41 : (Trym.prog.info? 41).map (fun i => (i.zero, i.size, i.bytes)) = some (some (.agg #[.int .u64 0, .int .u64 0]), 2, 16) := by kernel_rfl
theorem info32 : (Trym.prog.info? 32).map (fun i => (i.zero, i.size, i.bytes)) = some (some (.agg #[.int .u64 0, .int .u64 0]), 2, 16) := by kernel_rfl
theorem info33 : (Trym.prog.info? 33).map (fun i => (i.zero, i.size, i.bytes)) = some (some (.agg #[.int .u64 0, .int .u64 0]), 2, 16) := by kernel_rfl

theorem run_make2 (t e : TypeId) (ht : Trym.prog.underlying t = some (.slice e)) (hinfo : (Trym.prog.info? e).map (fun i => (i.zero, i.size, i.bytes)) = some (some (.agg #[.int .u64 0, .int .u64 0]), 2, 16))
    (n : Nat) (hn : n ≤ 65536) (w : World) :
    (Instr.makeSlice t (.int .i64 (n : Int)) (.int .i64 (n : Int))).run Trym.prog w = .ok (.slice (some ⟨w.heap.size, 0, none⟩) n n) (w.alloc (.cells (madeCells #[.int .u64 0, .int .u64 0] (n * 2)) e)) := by
  obtain ⟨i, hi, hzz⟩ := Option.map_eq_some_iff.1 hinfo
  simp only [Prod.mk.injEq] at hzz
  obtain ⟨hz, hs, hb⟩ := hzz
  have hr := run_make (P := Trym.prog) w t e i _ ht hi hz .i64 .i64 n n (by omega) (Int.le_refl _) (by rw [hb]; omega) (by omega)
  simp only [Int.toNat_natCast, hs] at hr
  exact hr

set_option maxHeartbeats 400000 in
theorem entries_any (r : Option Addr) (c : Nat) (l : List (Int × Int)) (w : World) (hn : l.length ≤ 65536) (h : Pairs w.heap.size w r l) :
    Calls Trym.prog 10 #[.slice r l.length c] w fun e w' => ∃ g, e = .returned (.slice (some ⟨g, 0, none⟩) l.length l.length) ∧ Pairs w'.heap.size w' (some ⟨g, 0, none⟩) l ∧ Below w.heap.size w w' := by
  have hmk := fun (W : World) => run_make2 37 41 Trym.underlying37 info41 l.length hn W
  have HP : Hid (Pairs w.heap.size w r l) := h
  clear h
  have HL : Hid (∀ k, k < l.length → ∃ p, l[k]? = some p) := fun k hk => ⟨l[k], List.getElem?_eq_getElem hk⟩
  have HS : Hid (Part (w.alloc (.cells (madeCells #[.int .u64 0, .int .u64 0] (l.length * 2)) 41)) w.heap.size 0 l) := part_start w 41 l
  have HE : Hid (∀ wr, Part wr w.heap.size l.length l → w.heap.size < wr.heap.size → Pairs wr.heap.size wr (some ⟨w.heap.size, 0, none⟩) l) :=
    fun wr hp hg => part_end hp (Nat.le_refl _) hg (fun i p hp => ⟨(HP.out i p hp).1, (HP.out i p hp).2.1⟩)
  have HT : Hid (∀ (wr : World) k p, l[k]? = some p → Part wr w.heap.size k l → Part ((wr.setCell ⟨w.heap.size, k * 2, none⟩ (.int .u64 p.1)).setCell ⟨w.heap.size, k * 2 + 1, none⟩ (.int .u64 p.2)) w.heap.size (k + 1) l) := fun wr k p hp h => part_set h p hp
  have HQ : Hid (∀ k p, l[k]? = some p → ∃ g off, r = some ⟨g, off, none⟩ ∧ g < w.heap.size ∧ w.cell? ⟨g, off + k * 2, none⟩ = some (.int .u64 p.1) ∧ w.cell? ⟨g, off + k * 2 + 1, none⟩ = some (.int .u64 p.2)) := fun k p hp => (HP.out k p hp).2.2
  generalize hN : l.length = n at *
  clear hN
  go_enter Trym.func10, Trym.ntmps10
  go_wp2
  go_loopw [4] (fun i wr => ∃ k : Nat, k ≤ n ∧ i = .int .i64 k ∧ Part wr w.heap.size k l ∧ w.heap.size < wr.heap.size ∧ Below w.heap.size w wr) (fun i _ => n - (intOf i).toNat)
  case atStart => exact ⟨0, Nat.zero_le _, rfl, HS.out, by simp, (Below.refl _ _).alloc (Nat.le_refl _) _⟩
  case round =>
    obtain ⟨k, hk, rfl, hp, hsz, hb⟩ := hrel
    clear hmk
    by_cases hlt : k < n
    · have hlt' : (k : Int) < (n : Int) := by omega
      obtain ⟨q, hq⟩ := HL.out k hlt
      obtain ⟨g, off, rfl, hg, hc1, hc2⟩ := HQ.out k q hq
      have hc1' : wr.cell? ⟨g, off + k * 2, none⟩ = some (.int .u64 q.1) := (hb.cell (by exact hg)).trans hc1
      have hc2' : wr.cell? ⟨g, off + k * 2 + 1, none⟩ = some (.int .u64 q.2) := (hb.cell (by exact hg)).trans hc2
      obtain ⟨⟨hf1, hf2⟩, a, b, hd1, hd2, _⟩ := hp k q hq
      have HP' := HT.out wr k q hq hp
      have HP2 : Hid (Part ((wr.setCell ⟨w.heap.size, k * 2, none⟩ (.int .u64 q.1)).setCell ⟨w.heap.size, k * 2 + 1, none⟩ (.int .u64 q.2)) w.heap.size (k + 1) l) := HP'
      have HB2 : Hid (Below w.heap.size w ((wr.setCell ⟨w.heap.size, k * 2, none⟩ (.int .u64 q.1)).setCell ⟨w.heap.size, k * 2 + 1, none⟩ (.int .u64 q.2))) := (hb.setCell (by exact Nat.le_refl _) _).setCell (by exact Nat.le_refl _) _
      clear hc1 hc2 hq hp hb HP'
      obtain ⟨x, y⟩ := q
      go_wp2
      go_region
      go_wp2
      go_roundw
      case rel => exact ⟨k + 1, by omega, by go_num, HP2.out, by simpa using hsz, HB2.out.drew⟩
      case measure => simp [intOf]; omega
    · obtain rfl : k = n := by omega
      go_wp2
      go_ret
      exact ⟨w.heap.size, rfl, HE.out wr hp hsz, hb⟩
end Go.Proofs.Qxb6617894aMods.Asks
