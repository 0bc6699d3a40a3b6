/-
  The contracts of asksOf, ZZAsksOf (functions 11, 7 of the dump).
-/
import Derived.Test.Qxb6617894aModsEntries
namespace Go.Proofs.Qxb6617894aMods.Asks
open Go.ChangeShapes Go.WideShapes Go.ChangeAt Go.RowKit

/-- the ids of a list of entries -/
def keys (l : List (Int × Int)) : List Int := l.map Prod.fst

/-- BLOCK b IS WHAT asksOf GIVES FOR l -/
def AsksIs (w : World) (b : Nat) (l : List (Int × Int)) : Prop := MapIs w b l.length (asks l) (many (keys l))

theorem AsksIs.start (w : World) : AsksIs (w.alloc (.map #[] 0)) w.heap.size [] := MapIs.made w

theorem AsksIs.step {w : World} {b : Nat} {l : List (Int × Int)} (h : AsksIs w b l) (hl : l.length ≤ 65536) (p : Int × Int) (h1 : Fits p.1) (h2 : Fits p.2) :
    ∃ w', (Instr.mapUpdate 26 (.map (some b)) (.int .u64 p.1) (.int .u64 p.2)).run Trym.prog w = .ok () w' ∧ AsksIs w' b (l ++ [p]) ∧ w.grownBy w' (some b) := by
  obtain ⟨w', hrun, hm, hg⟩ := MapIs.put h (by unfold maxLen; omega) h1 h2
  refine ⟨w', hrun, ?_, hg⟩
  unfold AsksIs
  rw [asks_snoc, List.length_append, List.length_singleton]
  have e : many (keys (l ++ [p])) = if (asks l p.1).isSome then many (keys l) else many (keys l) + 1 := by
    unfold keys
    rw [List.map_append, List.map_cons, List.map_nil, many_snoc]
    by_cases hm : p.1 ∈ l.map Prod.fst
    · rw [if_pos hm, if_pos ((asks_some_iff l p.1).2 hm)]
    · rw [if_neg hm, if_neg (by rw [(asks_none_iff l p.1).2 hm]; simp)]
  rw [e]
  exact hm

theorem take_snoc (l : List (Int × Int)) (k : Nat) (p : Int × Int) (h : l[k]? = some p) : l.take (k + 1) = l.take k ++ [p] := by
  obtain ⟨hk, rfl⟩ := List.getElem?_eq_some_iff.1 h
  exact List.take_succ_eq_append_getElem hk

set_option maxHeartbeats 400000 in
theorem asks_any (r : Option Addr) (c : Nat) (l : List (Int × Int)) (w : World) (hn : l.length ≤ 65536) (h : Pairs w.heap.size w r l) :
    Calls Trym.prog 11 #[.slice r l.length c] w fun e w' => ∃ b, e = .returned (.map (some b)) ∧ w.heap.size ≤ b ∧ AsksIs w' b l ∧ Below w.heap.size w w' := by
  have hmk := fun (W : World) (m : Int) => run_makeMap_hint 26 30 30 Trym.underlying26 m W
  have HL : Hid (∀ k, k < l.length → ∃ p, l[k]? = some p) := fun k hk => ⟨l[k], List.getElem?_eq_getElem hk⟩
  have HQ : Hid (∀ (k : Nat) (p : Int × Int), l[k]? = some p → Fits p.1 ∧ Fits p.2 ∧ ∃ g off, r = some ⟨g, off, none⟩ ∧ g < w.heap.size ∧ w.cell? ⟨g, off + k * 2, none⟩ = some (.int .u64 p.1) ∧ w.cell? ⟨g, off + k * 2 + 1, none⟩ = some (.int .u64 p.2)) := h
  have HA : Hid (l.take l.length = l) := List.take_length
  clear h
  generalize hN : l.length = n at *
  clear hN
  go_enter Trym.func11, Trym.ntmps11
  go_wp2
  go_loopw [11] (fun i wr => ∃ k : Nat, k ≤ n ∧ i = .int .i64 k ∧ AsksIs wr w.heap.size (l.take k) ∧ w.heap.size < wr.heap.size ∧ Below w.heap.size w wr) (fun i _ => n - (intOf i).toNat)
  case atStart => exact ⟨0, Nat.zero_le _, rfl, AsksIs.start w, by simp, (Below.refl _ _).alloc (Nat.le_refl _) _⟩
  case round =>
    obtain ⟨k, hk, rfl, hm, hsz, hb⟩ := hrel
    clear hmk
    by_cases hlt : k < n
    · have hlt' : (k : Int) < (n : Int) := by omega
      obtain ⟨q, hq⟩ := HL.out k hlt
      obtain ⟨f1, f2, g, off, rfl, hg, hc1, hc2⟩ := HQ.out k q hq
      have hc1' : wr.cell? ⟨g, off + k * 2, none⟩ = some (.int .u64 q.1) := (hb.cell (by exact hg)).trans hc1
      have hc2' : wr.cell? ⟨g, off + k * 2 + 1, none⟩ = some (.int .u64 q.2) := (hb.cell (by exact hg)).trans hc2
      have hm2 : AsksIs (wr.alloc (.cells #[.int .u64 q.1, .int .u64 q.2] 41)) w.heap.size (l.take k) := MapIs.kept hm ((Below.refl wr.heap.size wr).alloc (Nat.le_refl _) _) hsz
      obtain ⟨w2, hup, hm3, hgr⟩ := hm2.step (by rw [List.length_take]; omega) q f1 f2
      rw [← take_snoc l k q hq] at hm3
      have HM : Hid (AsksIs w2 w.heap.size (l.take (k + 1))) := hm3
      have HB : Hid (Below w.heap.size w w2) := (hb.alloc (Nat.le_of_lt hsz) _).grown hgr (by simp; omega) (fun j hj => by cases hj; exact Nat.le_refl _)
      have hsz2 : w.heap.size < w2.heap.size := hm3.lt
      clear hc1 hc2 hq hm hb hm2 hm3 hgr f1 f2
      obtain ⟨x, y⟩ := q
      go_wp2
      go_roundw
      case rel => exact ⟨k + 1, by omega, by go_num, HM.out, hsz2, HB.out⟩
      case measure => simp [intOf]; omega
    · obtain rfl : k = n := by omega
      rw [HA.out] at hm
      go_wp2
      go_ret
      exact ⟨w.heap.size, rfl, Nat.le_refl _, hm, hb⟩

theorem zzasks_any (r : Option Addr) (c : Nat) (l : List (Int × Int)) (w : World) (hn : l.length ≤ 65536) (h : Pairs w.heap.size w r l) :
    Calls Trym.prog 7 #[.slice r l.length c] w fun e w' => ∃ b, e = .returned (.map (some b)) ∧ w.heap.size ≤ b ∧ AsksIs w' b l ∧ Below w.heap.size w w' := by
  have HP : Hid (Pairs w.heap.size w r l) := h
  clear h
  go_enter Trym.func7, Trym.ntmps7
  go_wp2_with fail
  refine (entries_any r c l w hn HP.out).mono ?_
  rintro e w1 ⟨g, rfl, hp1, hb1⟩
  have HP1 : Hid (Pairs w1.heap.size w1 (some ⟨g, 0, none⟩) l) := hp1
  clear hp1
  go_wp2_with fail
  refine (asks_any _ _ l w1 hn HP1.out).mono ?_
  rintro e w2 ⟨b, rfl, hle, hm, hb2⟩
  have HM : Hid (AsksIs w2 b l) := hm
  clear hm
  go_wp2
  go_ret
  exact ⟨b, rfl, Nat.le_trans hb1.size hle, HM.out, hb1.trans (hb2.mono hb1.size)⟩

end Go.Proofs.Qxb6617894aMods.Asks
