/-
  The walk of FnAsksOfSplitRightWins (function 4 of the dump), all ways together.
-/
import Derived.Test.Qxb6617894aModsSplitWalk2
namespace Go.Proofs.Qxb6617894aMods.Asks
open Go.ChangeShapes Go.WideShapes Go.ChangeAt Go.RowKit

set_option maxRecDepth 100000 in
set_option maxHeartbeats 1000000 in
theorem split_nil (w : World) :
    Calls Trym.prog 4 #[.slice none 0 0, .int .i64 0] w fun e w' => e = .returned (.bool true) ∧ Below w.heap.size w w' := by
  have hmm := fun (W : World) (m : Int) => run_makeMap_hint 28 29 4 Trym.underlying28 m W
  have hneq := fun (W : World) => run_neq_slice_nil_any (P := Trym.prog) W 22 33 none 0 0 0 0 Trym.underlying22
  go_enter Trym.func4, Trym.ntmps4
  go_wp2_with (go_at_call 8; refine (zzb4_yes none 0 0 0 _ (by omega)).mono ?_; rintro e w' ⟨rfl, rfl⟩)
  clear hneq
  refine (zzasks_n none 0 0 [] w rfl (by omega) (Pairs.nil _ _ _)).mono ?_
  rintro e w2 ⟨bW, rfl, hW0, hW, hb2⟩
  have HW : Hid (AsksIs w2 bW []) := hW
  clear hW
  go_wp2_with fail
  refine (zzasks_n none 0 0 [] w2 rfl (by omega) (Pairs.nil _ _ _)).mono ?_
  rintro e w3 ⟨bL, rfl, hL0, hL, hb3⟩
  have HW3 : Hid (AsksIs w3 bW []) := MapIs.kept HW.out hb3 (MapIs.lt HW.out)
  clear hL
  go_wp2_with fail
  refine (zzasks_n none 0 0 [] w3 rfl (by omega) (Pairs.nil _ _ _)).mono ?_
  rintro e w4 ⟨bR, rfl, hR0, hR, hb4⟩
  have hW4 : AsksIs w4 bW [] := MapIs.kept HW3.out hb4 (MapIs.lt HW3.out)
  have hlenW := fun o ty => MapIs.len (MapIs.kept hW4 ((Below.refl w4.heap.size w4).alloc (Nat.le_refl _) o) (MapIs.lt hW4)) ty
  have hlenR := fun o ty => MapIs.len (MapIs.kept hR ((Below.refl w4.heap.size w4).alloc (Nat.le_refl _) o) (MapIs.lt hR)) ty
  have hz : many (keys []) = 0 := rfl
  rw [hz] at hlenW hlenR
  have B4 : Hid (Below w.heap.size w (w4.alloc (.map #[] 0))) := (hb2.trans ((hb3.mono hb2.size).trans (hb4.mono (Nat.le_trans hb2.size hb3.size)))).alloc (Nat.le_trans hb2.size (Nat.le_trans hb3.size hb4.size)) _
  clear hR hW4 hz hb2 hb3 hb4 HW HW3 hW0 hL0 hR0
  go_wp2
  go_loop [10, 11, 12] (fun d o i => d = .int .i64 0 ∧ o = .int .i64 0 ∧ i = .int .i64 0) (fun _ _ _ => 0)
  case atStart => exact ⟨rfl, rfl, rfl⟩
  case round =>
    obtain ⟨rfl, rfl, rfl⟩ := hrel
    go_wp2
    go_ret
    exact ⟨rfl, B4.out⟩

set_option maxRecDepth 100000 in
theorem split_all (a : Option Addr) (len cap : Nat) (l : List (Int × Int)) (k : Int) (w : World) (h : IsPairs w a len cap l) :
    Calls Trym.prog 4 #[.slice a len cap, .int .i64 k] w fun e w' => e = .returned (.bool true) ∧ Below w.heap.size w w' := by
  by_cases h1 : len ≤ 1048576
  case neg =>
    have h1' : 1048576 < len := by omega
    clear h h1
    go_enter Trym.func4, Trym.ntmps4
    go_wp2_with (go_at_call 8; refine (zzb4_no a len cap k _ h1').mono ?_; rintro e w' ⟨rfl, rfl⟩)
    go_ret
    exact ⟨rfl, Below.refl _ _⟩
  by_cases h2 : len ≤ 65536
  case neg =>
    have h2' : 65536 < len := by omega
    clear h h2
    go_enter Trym.func4, Trym.ntmps4
    go_wp2_with (go_at_call 8; refine (zzb4_yes a len cap k _ h1).mono ?_; rintro e w' ⟨rfl, rfl⟩)
    go_ret
    exact ⟨rfl, Below.refl _ _⟩
  by_cases h3 : k < 0
  · clear h
    go_enter Trym.func4, Trym.ntmps4
    go_wp2_with (go_at_call 8; refine (zzb4_yes a len cap k _ h1).mono ?_; rintro e w' ⟨rfl, rfl⟩)
    go_ret
    exact ⟨rfl, Below.refl _ _⟩
  by_cases h4 : (len : Int) < k
  · clear h
    go_enter Trym.func4, Trym.ntmps4
    go_wp2_with (go_at_call 8; refine (zzb4_yes a len cap k _ h1).mono ?_; rintro e w' ⟨rfl, rfl⟩)
    go_ret
    exact ⟨rfl, Below.refl _ _⟩
  obtain ⟨ct, rfl⟩ := Int.eq_ofNat_of_zero_le (show 0 ≤ k by omega)
  rcases h with ⟨rfl, rfl, rfl⟩ | ⟨x, rfl, hl, hp⟩
  · obtain rfl : ct = 0 := by omega
    exact split_nil w
  · by_cases h5 : ct = len
    · subst h5
      exact split_eq x ct cap l w hl h2 hp
    · exact split_lt x len ct cap l w hl h2 (by omega) hp

end Go.Proofs.Qxb6617894aMods.Asks
