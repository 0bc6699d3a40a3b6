/-
  The walk of FnAsksOfIsLastCount (function 3 of the dump).
-/
import Derived.Test.Qxb6617894aModsSteps
import Derived.Test.Qxb6617894aModsCounts
namespace Go.Proofs.Qxb6617894aMods.Asks
open Go.ChangeShapes Go.WideShapes Go.ChangeAt Go.RowKit

theorem zzb3_yes (r : Option Addr) (n c : Nat) (w : World) (h : n ≤ 1048576) :
    Calls Trym.prog 5 #[.slice r n c] w fun e w' => e = .returned (.bool true) ∧ w = w' := by
  go_enter Trym.func5, Trym.ntmps5
  go_wp2
  go_ret
  exact ⟨rfl, rfl⟩

theorem zzb3_no (r : Option Addr) (n c : Nat) (w : World) (h : 1048576 < n) :
    Calls Trym.prog 5 #[.slice r n c] w fun e w' => e = .returned (.bool false) ∧ w = w' := by
  go_enter Trym.func5, Trym.ntmps5
  go_wp2
  go_ret
  exact ⟨rfl, rfl⟩

theorem last_asks (r : Option Addr) (n c : Nat) (l : List (Int × Int)) (w : World) (hl : l.length = n) (hn : n ≤ 65536) (h : Pairs w.heap.size w r l) :
    Calls Trym.prog 7 #[.slice r n c] w fun e w' => ∃ b, e = .returned (.map (some b)) ∧ w.heap.size ≤ b ∧ AsksIs w' b l ∧ Below w.heap.size w w' := by
  subst hl
  exact zzasks_any r c l w hn h

theorem last_counts (r : Option Addr) (n c : Nat) (l : List (Int × Int)) (w : World) (hl : l.length = n) (hn : n ≤ 65536) (h : Pairs w.heap.size w r l) :
    Calls Trym.prog 6 #[.slice r n c] w fun e w' => ∃ g, e = .returned (.slice (some ⟨g, 0, none⟩) n n) ∧ Pairs w'.heap.size w' (some ⟨g, 0, none⟩) l ∧ Below w.heap.size w w' := by
  subst hl
  exact zzcounts_any r c l w hn h

/-- the ids seen from entry k on -/
def SeenD (l : List (Int × Int)) (k : Nat) (x : Int) : Bool := decide (x ∈ keys (l.drop k))

theorem drop_cons {l : List (Int × Int)} {k : Nat} {p : Int × Int} (hp : l[k]? = some p) : l.drop k = p :: l.drop (k + 1) := by
  obtain ⟨hk, rfl⟩ := List.getElem?_eq_some_iff.1 hp
  exact List.drop_eq_getElem_cons hk

theorem seenD_cons {l : List (Int × Int)} {k : Nat} {p : Int × Int} (hp : l[k]? = some p) (y : Int) : (if y = p.1 then true else SeenD l (k + 1) y) = SeenD l k y := by
  unfold SeenD keys
  rw [drop_cons hp, List.map_cons]
  by_cases e : y = p.1
  · rw [if_pos e]; simp [e]
  · rw [if_neg e]; simp [e]

theorem manyD_old {l : List (Int × Int)} {k : Nat} {p : Int × Int} (hp : l[k]? = some p) (h : SeenD l (k + 1) p.1 = true) : many (keys (l.drop k)) = many (keys (l.drop (k + 1))) := by
  have h' : p.1 ∈ (l.drop (k + 1)).map Prod.fst := of_decide_eq_true h
  unfold keys
  rw [drop_cons hp, List.map_cons, many_cons, if_pos h']

theorem manyD_new {l : List (Int × Int)} {k : Nat} {p : Int × Int} (hp : l[k]? = some p) (h : SeenD l (k + 1) p.1 = false) : many (keys (l.drop k)) = many (keys (l.drop (k + 1))) + 1 := by
  have h' : p.1 ∉ (l.drop (k + 1)).map Prod.fst := of_decide_eq_false h
  unfold keys
  rw [drop_cons hp, List.map_cons, many_cons, if_neg h']

theorem last_of_new {l : List (Int × Int)} {k : Nat} {p : Int × Int} (hp : l[k]? = some p) (h : SeenD l (k + 1) p.1 = false) : asks l p.1 = some p.2 := by
  have h' : (asks (l.drop (k + 1)) p.1).isSome = false := (asks_none_iff _ _).2 (of_decide_eq_false h)
  rw [whole_left (k + 1) h', take_snoc l k p hp, asks_snoc, upd_same]

theorem cntD_le (l : List (Int × Int)) (k : Nat) : many (keys (l.drop k)) ≤ l.length := by
  have h : (keys (l.drop k)).length ≤ l.length := by unfold keys; rw [List.length_map, List.length_drop]; omega
  exact Nat.le_trans (many_le _) h

theorem MapIs.drewN {w : World} {b N : Nat} {m : Int → Option Int} {s : Nat} (h : MapIs w b N m s) (q : Nat) : MapIs (w.drewN q) b N m s := h
theorem SetIs.drewN {w : World} {b N : Nat} {S : Int → Bool} (h : SetIs w b N S) (q : Nat) : SetIs (w.drewN q) b N S := h

set_option maxRecDepth 100000 in
set_option maxHeartbeats 2000000 in
theorem last_some (x : Addr) (n c : Nat) (l : List (Int × Int)) (w : World) (hl : l.length = n) (hn : n ≤ 65536) (h : Pairs w.heap.size w (some x) l) :
    Calls Trym.prog 3 #[.slice (some x) n c] w fun e w' => e = .returned (.bool true) ∧ Below w.heap.size w w' := by
  have hn2 : n ≤ 1048576 := by omega
  have hmk := fun (W : World) => run_make2 22 33 Trym.underlying22 info33 n hn W
  obtain ⟨w1, hcp, hp1, hb1⟩ := copied x c l w h
  rw [hl] at hcp
  have hmm := fun (W : World) (m : Int) => run_makeMap_hint 28 29 4 Trym.underlying28 m W
  have hneq := fun (W : World) => run_neq_slice_nil_any (P := Trym.prog) W 22 33 (some x) n c 0 0 Trym.underlying22
  have HP1 : Hid (Pairs w1.heap.size w1 (some ⟨w.heap.size, 0, none⟩) l) := hp1
  have HL : Hid (l.length = n) := hl
  clear hp1 h hl
  go_enter Trym.func3, Trym.ntmps3
  go_wp2_with (go_at_call 5; refine (zzb3_yes (some x) n c _ hn2).mono ?_; rintro e w' ⟨rfl, rfl⟩)
  clear hcp hmk hneq
  refine (last_counts _ n n l w1 HL.out hn HP1.out).mono ?_
  rintro e w2 ⟨gc, rfl, hC, hb2⟩
  have HC : Hid (Pairs w2.heap.size w2 (some ⟨gc, 0, none⟩) l) := hC
  have HP2 : Hid (Pairs w1.heap.size w2 (some ⟨w.heap.size, 0, none⟩) l) := HP1.out.below hb2 (Nat.le_refl _)
  clear hC
  go_wp2_with fail
  refine (last_asks _ n n l w2 HL.out hn (HP2.out.up hb2.size)).mono ?_
  rintro e w3 ⟨bA, rfl, hA0, hA, hb3⟩
  have HA : Hid (AsksIs w3 bA l) := hA
  have HC3 : Hid (Pairs w2.heap.size w3 (some ⟨gc, 0, none⟩) l) := HC.out.below hb3 (Nat.le_refl _)
  have HP3 : Hid (Pairs w1.heap.size w3 (some ⟨w.heap.size, 0, none⟩) l) := HP2.out.below hb3 hb2.size
  have z3 : w1.heap.size ≤ w3.heap.size := Nat.le_trans hb2.size hb3.size
  have z32 : w2.heap.size ≤ w3.heap.size := hb3.size
  have B3 : Hid (Below w.heap.size w w3) := hb1.trans ((hb2.mono hb1.size).trans (hb3.mono (Nat.le_trans hb1.size hb2.size)))
  have z0 : w.heap.size ≤ w3.heap.size := B3.out.size
  have HS : Hid (SetIs (w3.alloc (.map #[] 0)) w3.heap.size 0 (SeenD l n)) := SetIs.congr (SetIs.made w3) (fun y => by simp [SeenD, keys, ← HL.out])
  have HZ : Hid (many (keys (l.drop n)) = 0) := by show _ = _; rw [← HL.out]; simp [keys, many, ids]
  clear hA hb1 hb2 hb3 HP1 HP2 HC hA0
  go_wp2
  go_loopw [7, 8] (fun dv iv wr => ∃ k : Nat, k ≤ n ∧ iv = .int .i64 ((k : Int) - 1) ∧ dv = .int .i64 (many (keys (l.drop k))) ∧ SetIs wr w3.heap.size (n - k) (SeenD l k) ∧ Below w3.heap.size w3 wr) (fun _ iv _ => (intOf iv + 1).toNat)
  case atStart => exact ⟨n, Nat.le_refl _, rfl, by rw [HZ.out]; rfl, by rw [Nat.sub_self]; exact HS.out, (Below.refl _ _).alloc (Nat.le_refl _) _⟩
  case round =>
    obtain ⟨k, hk, rfl, rfl, hset, hb⟩ := hrel
    clear hmm HS HZ
    have hc1 := cntD_le l k
    rw [HL.out] at hc1
    by_cases h0 : 1 ≤ k
    · obtain ⟨m, rfl⟩ : ∃ m, k = m + 1 := ⟨k - 1, by omega⟩
      have e1 : ((m + 1 : Nat) : Int) - 1 = (m : Int) := by omega
      rw [e1]
      clear e1
      have hm' : (m : Int) < (n : Int) := by omega
      obtain ⟨⟨x0, y0⟩, hq⟩ : ∃ q, l[m]? = some q := ⟨_, List.getElem?_eq_getElem (by rw [HL.out]; omega)⟩
      obtain ⟨f1, f2, g, off, hr, hg, hex, hey⟩ := HP3.out m (x0, y0) hq
      obtain ⟨_, _, g2, off2, hr2, hg2, hcx, hcy⟩ := HC3.out m (x0, y0) hq
      have hex' : wr.cell? ⟨w.heap.size, m * 2, none⟩ = some (.int .u64 x0) := by
        injection Option.some.inj hr with e1 e2
        subst e1
        subst e2
        rw [Nat.zero_add] at hex
        exact (hb.cell (by exact Nat.lt_of_lt_of_le hg z3)).trans hex
      have hey' : wr.cell? ⟨w.heap.size, m * 2 + 1, none⟩ = some (.int .u64 y0) := by
        injection Option.some.inj hr with e1 e2
        subst e1
        subst e2
        rw [Nat.zero_add] at hey
        exact (hb.cell (by exact Nat.lt_of_lt_of_le hg z3)).trans hey
      have hcx' : wr.cell? ⟨gc, m * 2, none⟩ = some (.int .u64 x0) := by
        injection Option.some.inj hr2 with e1 e2
        subst e1
        subst e2
        rw [Nat.zero_add] at hcx
        exact (hb.cell (by exact Nat.lt_of_lt_of_le hg2 z32)).trans hcx
      have hcy' : wr.cell? ⟨gc, m * 2 + 1, none⟩ = some (.int .u64 y0) := by
        injection Option.some.inj hr2 with e1 e2
        subst e1
        subst e2
        rw [Nat.zero_add] at hcy
        exact (hb.cell (by exact Nat.lt_of_lt_of_le hg2 z32)).trans hcy
      have hgw : w.heap.size < wr.heap.size := World.block_lt_of_cell? wr _ hex'
      have hgc : gc < wr.heap.size := World.block_lt_of_cell? wr _ hcx'
      clear hex hey hcx hcy hr hr2 hg hg2 g off g2 off2
      have ba : Below wr.heap.size wr (wr.alloc (.cells #[.int .u64 x0, .int .u64 y0] 32)) := (Below.refl wr.heap.size wr).alloc (Nat.le_refl _) _
      have hA := MapIs.kept (MapIs.kept HA.out hb (MapIs.lt HA.out)) ba (Nat.lt_of_lt_of_le (MapIs.lt HA.out) hb.size)
      have hS := hset.kept ba hset.lt
      have hSlt := hset.lt
      have hin := in_whole hq
      obtain ⟨v, hv⟩ := Option.isSome_iff_exists.1 hin
      have hlA := fun q => (hA.drewN q).look_ok f1
      have hlS := fun q => (hS.drewN q).look f1
      dsimp only at hlA hlS hv f1 f2
      rw [hv] at hlA
      simp only [Option.getD_some, Option.isSome_some] at hlA
      have HSet : Hid (SetIs (wr.alloc (.cells #[.int .u64 x0, .int .u64 y0] 32)) w3.heap.size (n - (m + 1)) (SeenD l (m + 1))) := hS
      have HB : Hid (Below w3.heap.size w3 (wr.alloc (.cells #[.int .u64 x0, .int .u64 y0] 32))) := hb.trans (ba.mono hb.size)
      have HQ : Hid (l[m]? = some (x0, y0)) := hq
      have HF : Hid (Fits x0) := f1
      have HV : Hid (asks l x0 = some v) := hv
      clear hA hS hset hb hin hv ba hq f1 f2
      cases hsb : SeenD l (m + 1) x0
      · obtain rfl : v = y0 := by
          have := last_of_new HQ.out hsb
          dsimp only at this
          rw [HV.out] at this
          exact Option.some.inj this
        rw [hsb] at hlS
        have HSB : Hid (SeenD l (m + 1) x0 = false) := hsb
        clear hsb HV
        go_wp2
        go_quiet (fail)
        obtain ⟨w5, hup, hset', hgr⟩ := (HSet.out.drewN nq).put (by unfold maxLen; omega) HF.out
        have HS5 : Hid (SetIs w5 w3.heap.size (n - m) (SeenD l m)) := (hset'.mono (by omega)).congr (seenD_cons HQ.out)
        have HB5 : Hid (Below w3.heap.size w3 w5) := (below_drewN HB.out nq).grown hgr (below_drewN HB.out nq).size (fun j hj => by cases hj; exact Nat.le_refl _)
        have hc5 : w5.cell? ⟨wr.heap.size, 1, none⟩ = some (.int .u64 v) := by
          rw [World.cell?_of_block (w := (wr.alloc (.cells #[.int .u64 x0, .int .u64 v] 32)).drewN nq) (hgr.block wr.heap.size (by simp) (by intro e; injection e with e; omega))]
          exact World.cell?_alloc_at _ _ _ _ rfl
        clear hset' hgr
        go_wp2
        go_roundw
        case rel => exact ⟨m, by omega, rfl, by rw [manyD_new HQ.out HSB.out]; go_num, HS5.out, HB5.out⟩
        case measure => simp [intOf]
      · rw [hsb] at hlS
        have HSB : Hid (SeenD l (m + 1) x0 = true) := hsb
        clear hsb HV
        have HS5 : Hid (SetIs (wr.alloc (.cells #[.int .u64 x0, .int .u64 y0] 32)) w3.heap.size (n - m) (SeenD l m)) := (HSet.out.mono (by omega)).congr (fun z => by
          rw [← seenD_cons HQ.out z]
          by_cases e : z = x0
          · rw [if_pos e, e, HSB.out]
          · rw [if_neg e])
        go_wp2
        go_quiet (fail)
        go_wp2
        go_roundw
        case rel => exact ⟨m, by omega, rfl, by rw [manyD_old HQ.out HSB.out], HS5.out.drewN nq, below_drewN HB.out nq⟩
        case measure => simp [intOf]
    · obtain rfl : k = 0 := by omega
      have hlenA := fun ty => MapIs.len (MapIs.kept HA.out hb (MapIs.lt HA.out)) ty
      have HB : Hid (Below w.heap.size w wr) := B3.out.trans (hb.mono z0)
      rw [List.drop_zero] at hc1 ⊢
      clear hset hb
      go_wp2
      go_ret
      exact ⟨rfl, HB.out⟩

set_option maxRecDepth 100000 in
set_option maxHeartbeats 1000000 in
theorem last_nil (w : World) :
    Calls Trym.prog 3 #[.slice none 0 0] w fun e w' => e = .returned (.bool true) ∧ Below w.heap.size w w' := by
  have hmm := fun (W : World) (m : Int) => run_makeMap_hint 28 29 4 Trym.underlying28 m W
  have hneq := fun (W : World) => run_neq_slice_nil_any (P := Trym.prog) W 22 33 none 0 0 0 0 Trym.underlying22
  go_enter Trym.func3, Trym.ntmps3
  go_wp2_with (go_at_call 5; refine (zzb3_yes none 0 0 _ (by omega)).mono ?_; rintro e w' ⟨rfl, rfl⟩)
  clear hneq
  refine (last_counts none 0 0 [] w rfl (by omega) (Pairs.nil _ _ _)).mono ?_
  rintro e w2 ⟨gc, rfl, hC, hb2⟩
  clear hC
  go_wp2_with fail
  refine (last_asks none 0 0 [] w2 rfl (by omega) (Pairs.nil _ _ _)).mono ?_
  rintro e w3 ⟨bA, rfl, hA0, hA, hb3⟩
  have hlenA := fun o ty => MapIs.len (MapIs.kept hA ((Below.refl w3.heap.size w3).alloc (Nat.le_refl _) o) (MapIs.lt hA)) ty
  have hz : many (keys []) = 0 := rfl
  rw [hz] at hlenA
  have B3 : Hid (Below w.heap.size w (w3.alloc (.map #[] 0))) := (hb2.trans (hb3.mono hb2.size)).alloc (Nat.le_trans hb2.size hb3.size) _
  clear hA hz hb2 hb3 hA0
  go_wp2
  go_loop [7, 8] (fun d i => d = .int .i64 0 ∧ i = .int .i64 (-1)) (fun _ _ => 0)
  case atStart => exact ⟨rfl, rfl⟩
  case round =>
    obtain ⟨rfl, rfl⟩ := hrel
    go_wp2
    go_ret
    exact ⟨rfl, B3.out⟩
end Go.Proofs.Qxb6617894aMods.Asks
