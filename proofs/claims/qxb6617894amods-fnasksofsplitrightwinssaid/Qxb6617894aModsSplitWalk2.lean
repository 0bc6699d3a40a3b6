/-
  The walk of FnAsksOfSplitRightWins (function 4 of the dump).
-/
import Derived.Test.Qxb6617894aModsSplitWalk
namespace Go.Proofs.Qxb6617894aMods.Asks
open Go.ChangeShapes Go.WideShapes Go.ChangeAt Go.RowKit

set_option maxRecDepth 100000 in
set_option maxHeartbeats 2000000 in
theorem split_eq (x : Addr) (ct c : Nat) (l : List (Int × Int)) (w : World) (hl : l.length = ct) (hn : ct ≤ 65536) (h : Pairs w.heap.size w (some x) l) :
    Calls Trym.prog 4 #[.slice (some x) ct c, .int .i64 ct] w fun e w' => e = .returned (.bool true) ∧ Below w.heap.size w w' := by
  have hn2 : ct ≤ 1048576 := by omega
  have hmk := fun (W : World) => run_make2 22 33 Trym.underlying22 info33 ct hn W
  obtain ⟨w1, hcp, hp1, hb1⟩ := copied x c l w h
  rw [hl] at hcp
  have hmm := fun (W : World) (m : Int) => run_makeMap_hint 28 29 4 Trym.underlying28 m W
  have hneq := fun (W : World) => run_neq_slice_nil_any (P := Trym.prog) W 22 33 (some x) ct c 0 0 Trym.underlying22
  have HP1 : Hid (Pairs w1.heap.size w1 (some ⟨w.heap.size, 0, none⟩) l) := hp1
  have HL : Hid (l.length = ct) := hl
  clear hp1 h hl
  go_enter Trym.func4, Trym.ntmps4
  go_wp2_with (go_at_call 8; refine (zzb4_yes (some x) ct c ct _ hn2).mono ?_; rintro e w' ⟨rfl, rfl⟩)
  clear hcp hmk hneq
  refine (zzasks_n _ ct ct l w1 HL.out hn HP1.out).mono ?_
  rintro e w2 ⟨bW, rfl, hW0, hW, hb2⟩
  have HW : Hid (AsksIs w2 bW l) := hW
  have HP2 : Hid (Pairs w1.heap.size w2 (some ⟨w.heap.size, 0, none⟩) l) := HP1.out.below hb2 (Nat.le_refl _)
  clear hW
  go_wp2_with fail
  refine (zzasks_n _ ct ct (l.take ct) w2 (by rw [List.length_take, HL.out]; omega) (by omega) ((HP2.out.take ct).up hb2.size)).mono ?_
  rintro e w3 ⟨bL, rfl, hL0, hL, hb3⟩
  have HLm : Hid (AsksIs w3 bL (l.take ct)) := hL
  have HW3 : Hid (AsksIs w3 bW l) := MapIs.kept HW.out hb3 (MapIs.lt HW.out)
  have HP3 : Hid (Pairs w1.heap.size w3 (some ⟨w.heap.size, 0, none⟩) l) := HP2.out.below hb3 hb2.size
  clear hL
  go_wp2_with fail
  refine (zzasks_n _ 0 0 (l.drop ct) w3 (by rw [List.length_drop, HL.out]; omega) (by omega) (by rw [List.drop_eq_nil_of_le (by rw [HL.out]; exact Nat.le_refl _)]; exact Pairs.nil _ _ _)).mono ?_
  rintro e w4 ⟨bR, rfl, hR0, hR, hb4⟩
  have HRm : Hid (AsksIs w4 bR (l.drop ct)) := hR
  have HW4 : Hid (AsksIs w4 bW l) := MapIs.kept HW3.out hb4 (MapIs.lt HW3.out)
  have HL4 : Hid (AsksIs w4 bL (l.take ct)) := MapIs.kept HLm.out hb4 (MapIs.lt HLm.out)
  have HP4 : Hid (Pairs w1.heap.size w4 (some ⟨w.heap.size, 0, none⟩) l) := HP3.out.below hb4 (Nat.le_trans hb2.size hb3.size)
  have z4 : w1.heap.size ≤ w4.heap.size := Nat.le_trans hb2.size (Nat.le_trans hb3.size hb4.size)
  have B4 : Hid (Below w.heap.size w w4) := hb1.trans ((hb2.mono hb1.size).trans ((hb3.mono (Nat.le_trans hb1.size hb2.size)).trans (hb4.mono (Nat.le_trans hb1.size (Nat.le_trans hb2.size hb3.size)))))
  have z0 : w.heap.size ≤ w4.heap.size := B4.out.size
  have HS : Hid (SetIs (w4.alloc (.map #[] 0)) w4.heap.size 0 (Seen l 0)) := SetIs.congr (SetIs.made w4) (fun y => by simp [Seen, keys])
  clear hR hb1 hb2 hb3 hb4 HP1 HP2 HP3 HW HW3 HLm hW0 hL0 hR0
  go_wp2
  go_loopw [10, 11, 12] (fun dv ov iv wr => ∃ k : Nat, k ≤ ct ∧ iv = .int .i64 k ∧ dv = .int .i64 (many (keys (l.take k))) ∧ ov = .int .i64 (only (asks (l.drop ct)) (keys (l.take k))) ∧ SetIs wr w4.heap.size k (Seen l k) ∧ Below w4.heap.size w4 wr) (fun _ _ iv _ => ct - (intOf iv).toNat)
  case atStart => exact ⟨0, Nat.zero_le _, rfl, by simp [keys, many, ids], by simp [keys, only, ids], HS.out, (Below.refl _ _).alloc (Nat.le_refl _) _⟩
  case round =>
    obtain ⟨k, hk, rfl, rfl, rfl, hset, hb⟩ := hrel
    clear hmm HS
    obtain ⟨hc1, hc2'⟩ := cnt_le l k
    have hc2 := hc2' (asks (l.drop ct))
    clear hc2'
    by_cases hlt : k < ct
    · have hlt' : (k : Int) < (ct : Int) := by omega
      obtain ⟨⟨x0, y0⟩, hq⟩ : ∃ q, l[k]? = some q := ⟨_, List.getElem?_eq_getElem (by rw [HL.out]; exact hlt)⟩
      obtain ⟨f1, f2, g, off, hr, hg, hcx, hcy⟩ := HP4.out k (x0, y0) hq
      have hcx' : wr.cell? ⟨w.heap.size, k * 2, none⟩ = some (.int .u64 x0) := by
        injection Option.some.inj hr with e1 e2
        subst e1
        subst e2
        rw [Nat.zero_add] at hcx
        exact (hb.cell (by exact Nat.lt_of_lt_of_le hg z4)).trans hcx
      clear hcx hcy hr hg g off
      have hW := MapIs.look_ok (MapIs.kept HW4.out hb (MapIs.lt HW4.out)) f1
      have hR := MapIs.look_ok (MapIs.kept HRm.out hb (MapIs.lt HRm.out)) f1
      have hL := MapIs.look_ok (MapIs.kept HL4.out hb (MapIs.lt HL4.out)) f1
      have hS := hset.look f1
      have w1s := in_whole hq
      have HQ : Hid (l[k]? = some (x0, y0)) := hq
      have HSeen : Hid (∀ z, (if z = x0 then true else Seen l k z) = Seen l (k + 1) z) := seen_snoc hq
      dsimp only at hW hR hL hS w1s f1
      -- what the round does to the set and to the two counts
      obtain ⟨w5, sb, hS', hup, HN⟩ : ∃ w5 sb, (Instr.lookup 28 (.map (some w4.heap.size)) (.int .u64 x0) false).run Trym.prog wr = .ok (.bool sb) wr ∧ (sb = false → (Instr.mapUpdate 28 (.map (some w4.heap.size)) (.int .u64 x0) (.bool true)).run Trym.prog wr = .ok () w5) ∧
          Hid (Seen l k x0 = sb ∧ SetIs (if sb then wr else w5) w4.heap.size (k + 1) (Seen l (k + 1)) ∧ Below w4.heap.size w4 (if sb then wr else w5)) := by
        cases hs : Seen l k x0
        · obtain ⟨w5, hup, hset', hgr⟩ := hset.put (by unfold maxLen; omega) f1
          refine ⟨w5, false, by rw [hS, hs], fun _ => hup, rfl, hset'.congr HSeen.out, ?_⟩
          exact hb.grown hgr hb.size (fun j hj => by cases hj; exact Nat.le_refl _)
        · refine ⟨wr, true, by rw [hS, hs], fun h => absurd h (by simp), rfl, (hset.mono (Nat.le_succ k)).congr (fun z => ?_), hb⟩
          rw [← HSeen.out z]
          by_cases e : z = x0
          · rw [if_pos e, e, hs]
          · rw [if_neg e]
      clear hS hset hb HSeen hq
      by_cases hRs : (asks (l.drop ct) x0).isSome = true
      · have hwr := whole_right ct hRs
        obtain ⟨v, hv⟩ := Option.isSome_iff_exists.1 hRs
        rw [hwr, hv] at hW
        rw [hv] at hR
        simp only [Option.getD_some, Option.isSome_some] at hW hR
        have HRs : Hid ((asks (l.drop ct) x0).isSome = true) := hRs
        obtain ⟨lv, lb, hL', hlb⟩ : ∃ lv lb, (Instr.lookup 26 (.map (some bL)) (.int .u64 x0) true).run Trym.prog wr = .ok (.tuple #[.int .u64 lv, .bool lb]) wr ∧ (k < ct → lb = true) :=
          ⟨_, _, hL, fun hk => in_left HQ.out hk⟩
        clear hL hRs hv hwr w1s
        by_cases hkc : k < ct
        · obtain rfl := hlb hkc
          have hkc' : (k : Int) < (ct : Int) := by omega
          cases sb
          · have hup' := hup rfl
            clear hup hlb
            go_wp2
            go_roundw
            case rel => exact ⟨k + 1, by omega, by go_num, by rw [many_step_new HQ.out HN.out.1]; go_num, by rw [only_step_in HQ.out HRs.out], HN.out.2.1, HN.out.2.2⟩
            case measure => simp [intOf]; omega
          · clear hup hlb
            go_wp2
            go_roundw
            case rel => exact ⟨k + 1, by omega, by go_num, by rw [many_step_old HQ.out HN.out.1], by rw [only_step_in HQ.out HRs.out], HN.out.2.1, HN.out.2.2⟩
            case measure => simp [intOf]; omega
        · exact absurd hlt hkc
      · have hRf : (asks (l.drop ct) x0).isSome = false := by simpa using hRs
        have hkc : k < ct := by
          rcases Nat.lt_or_ge k ct with h | h
          · exact h
          · exact absurd (in_right HQ.out h) hRs
        have hkc' : (k : Int) < (ct : Int) := by omega
        have hwl := whole_left ct hRf
        have hls := in_left HQ.out hkc
        dsimp only at hls
        obtain ⟨v, hv⟩ := Option.isSome_iff_exists.1 hls
        rw [hwl, hv] at hW
        rw [hv] at hL
        have HRf : Hid ((asks (l.drop ct) x0).isSome = false) := hRf
        rw [Option.isSome_eq_false_iff, Option.isNone_iff_eq_none] at hRf
        rw [hRf] at hR
        simp only [Option.getD_some, Option.isSome_some, Option.getD_none, Option.isSome_none] at hW hR hL
        clear hRs hRf hwl hls hv w1s
        cases sb
        · have hup' := hup rfl
          clear hup
          go_wp2
          go_roundw
          case rel => exact ⟨k + 1, by omega, by go_num, by rw [many_step_new HQ.out HN.out.1]; go_num, by rw [only_step_new HQ.out HN.out.1 HRf.out]; go_num, HN.out.2.1, HN.out.2.2⟩
          case measure => simp [intOf]; omega
        · clear hup
          go_wp2
          go_roundw
          case rel => exact ⟨k + 1, by omega, by go_num, by rw [many_step_old HQ.out HN.out.1], by rw [only_step_old HQ.out HN.out.1], HN.out.2.1, HN.out.2.2⟩
          case measure => simp [intOf]; omega
    · have hkn : ct = k := by omega
      subst hkn
      have htk : l.take ct = l := by rw [← HL.out, List.take_length]
      rw [htk] at hc1 hc2 ⊢
      have hparts := many_parts l ct
      have hlenW := fun ty => MapIs.len (MapIs.kept HW4.out hb (MapIs.lt HW4.out)) ty
      have hlenR := fun ty => MapIs.len (MapIs.kept HRm.out hb (MapIs.lt HRm.out)) ty
      have hlenW2 := fun o ty => MapIs.len (MapIs.kept (MapIs.kept HW4.out hb (MapIs.lt HW4.out)) ((Below.refl wr.heap.size wr).alloc (Nat.le_refl _) o) (Nat.lt_of_lt_of_le (MapIs.lt HW4.out) hb.size)) ty
      have hlenR2 := fun o ty => MapIs.len (MapIs.kept (MapIs.kept HRm.out hb (MapIs.lt HRm.out)) ((Below.refl wr.heap.size wr).alloc (Nat.le_refl _) o) (Nat.lt_of_lt_of_le (MapIs.lt HRm.out) hb.size)) ty
      have heq2 : ((many (keys l) : Int) == (many (keys (l.drop ct)) : Int) + (only (asks (l.drop ct)) (keys l) : Int)) = true := by rw [beq_iff_eq]; omega
      have hmR : many (keys (l.drop ct)) ≤ many (keys l) := by omega
      have HB : Hid (Below w.heap.size w wr) := B4.out.trans (hb.mono z0)
      have HBa : Hid (∀ o, Below w.heap.size w (wr.alloc o)) := fun o => HB.out.alloc HB.out.size o
      generalize many (keys l) = mW at *
      generalize many (keys (l.drop ct)) = mR at *
      generalize only (asks (l.drop ct)) (keys l) = mO at *
      clear hset htk hparts
      by_cases h0 : 0 < ct
      · have h0' : (0 : Int) < (ct : Int) := by omega
        obtain ⟨⟨x0, y0⟩, hq⟩ : ∃ q, l[ct - 1]? = some q := ⟨_, List.getElem?_eq_getElem (by rw [HL.out]; omega)⟩
        obtain ⟨f1, f2, g, off, hr, hg, hcx, hcy⟩ := HP4.out (ct - 1) (x0, y0) hq
        injection Option.some.inj hr with e1 e2
        subst e1
        subst e2
        rw [Nat.zero_add] at hcx hcy
        have hcx' : wr.cell? ⟨w.heap.size, (ct - 1) * 2, none⟩ = some (.int .u64 x0) := (hb.cell (by exact Nat.lt_of_lt_of_le hg z4)).trans hcx
        have hcy' : wr.cell? ⟨w.heap.size, (ct - 1) * 2 + 1, none⟩ = some (.int .u64 y0) := (hb.cell (by exact Nat.lt_of_lt_of_le hg z4)).trans hcy
        have hlast : asks l x0 = some y0 := whole_last (by rw [HL.out]; exact hq)
        have hlook := fun o => MapIs.look (MapIs.kept (MapIs.kept HW4.out hb (MapIs.lt HW4.out)) ((Below.refl wr.heap.size wr).alloc (Nat.le_refl _) o) (Nat.lt_of_lt_of_le (MapIs.lt HW4.out) hb.size)) f1
        dsimp only at hlook
        rw [hlast] at hlook
        simp only [Option.getD_some] at hlook
        clear hcx hcy hr hlast hq hb hlenW hlenR f1 f2
        go_wp2
        go_ret
        exact ⟨rfl, HBa.out _⟩
      · clear hlenW2 hlenR2 hb
        go_wp2
        go_ret
        exact ⟨rfl, HB.out⟩

end Go.Proofs.Qxb6617894aMods.Asks
