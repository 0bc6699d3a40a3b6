/-
  The walk of FnTakeTwiceIsTakeOfTheSum (function 4 of the dump): the second count is too great; both fit.
-/
import Derived.Test.Qxb6617154aModsTakeWalk
namespace Go.Proofs.Qxb6617154aMods.Bytes
open Go.ChangeShapes Go.WideShapes Go.ChangeAt Go.RowKit

set_option maxRecDepth 100000 in
set_option maxHeartbeats 1000000 in
theorem law_dl (r : Option Addr) (n a b c : Nat) (w : World) (hn : n ≤ 1048576) (hnil : r = none → n = 0) (h : Same w.heap.size w r r n)
    (hb : b ≤ 18446744073709551615) (hlt : a < n) (hbn : n < a + b) :
    Calls Trym.prog 4 #[.slice r n c, .bool false, .int .u64 a, .int .u64 b] w fun e w' => e = .returned (.bool true) ∧ Below w.heap.size w w' := by
  have HN : Hid (r = none → n = 0) := hnil
  have HS : Hid (Same w.heap.size w r r n) := h
  clear hnil h
  have heq := fun (W : World) => Lib.run_eql_slice_nil (P := Trym.prog) W 26 5 none 0 0 0 0 Trym.underlying26
  have hA : a ≤ n := by omega
  have hA' : (a : Int) ≤ (n : Int) := by omega
  have hA2 : a ≤ 1048576 := by omega
  have hS2 : n - a ≤ 1048576 := by omega
  have hne : ¬ n = a := by omega
  have hB : (n : Int) - (a : Int) < (b : Int) := by omega
  go_enter Trym.func4, Trym.ntmps4
  go_wp2_with (go_at_call 10; refine (zzb_yes r n c false _ b _ hn).mono ?_; rintro e w' ⟨rfl, rfl⟩)
  refine (clone_any r n c _ hn HN.out HS.out).mono ?_
  rintro e w1 ⟨r1, rfl, s1, b1⟩
  have S1 : Hid (Same w1.heap.size w1 r1 r1 n) := s1
  clear s1
  go_wp2_with fail
  refine (new_any r1 n n false w1).mono ?_
  rintro e w2 ⟨rfl, d2, b2⟩
  have D2 : Hid (Rdr w2 w1.heap.size r1 n n false) := d2
  clear d2
  go_wp2_with fail
  refine (zztake_yes w1.heap.size r1 n n a w2 D2.out hn (Nat.le_refl _) hA).mono ?_
  rintro e w3 ⟨rfl, d3, b3⟩
  have D3 : Hid (Rdr w3 w1.heap.size (cut r1 a n) (n - a) (n - a) false) := d3
  clear d3
  go_wp2_with fail
  refine (zztake_no w1.heap.size (cut r1 a n) (n - a) (n - a) false b w3 D3.out (by omega) (Or.inr (by omega))).mono ?_
  rintro e w4 ⟨rfl, d4, b4⟩
  have D4 : Hid (Rdr w4 w1.heap.size (cut r1 a n) (n - a) (n - a) true) := d4
  clear d4
  have s4 : Same w1.heap.size w4 r1 r1 n := ((S1.out.below b2 (Nat.le_refl _)).below b3 (Nat.le_refl _)).below b4 (Nat.le_refl _)
  have F1 : Hid (Same w1.heap.size w4 r1 r1 a) := s4.less _ hA
  have F2 : Hid (Same w1.heap.size w4 (cut r1 a n) (r1.map (fun x => x.add a)) (n - a)) := by rw [cut_map r1 a n (by omega)]; exact s4.past a n (n - a) (by omega) (by omega)
  have B4 : Hid (Below w.heap.size w w4) := b1.trans (((b2.trans b3).trans b4).mono b1.size)
  have z1 : w.heap.size ≤ w1.heap.size := b1.size
  have z4 : w1.heap.size < w4.heap.size := D4.out.lt
  clear b1 b2 b3 b4 S1 D2 D3 s4
  go_wp2_with fail
  go_quiet (first
    | (go_at_call 15; refine Calls.quiet_of (same_eq w1.heap.size _ _ _ _ _ _ _ ?_ ?_ ?_); (first | exact hA2 | exact hS2 | omega); (first | rfl | omega); (first | exact Same.zero _ _ _ _ _ rfl | exact F1.out.drewN _ | exact F2.out.drewN _))
    | (go_at_call 14; exact Calls.quiet_of_same (failed_any w1.heap.size _ _ _ _ _ (D4.out.drewN _)))
    | (go_at_call 16; exact Calls.quiet_of_same (rest_any w1.heap.size _ _ _ _ _ (D4.out.drewN _))))
  go_wp2_with fail
  · go_ret
    exact ⟨rfl, below_drewN B4.out _⟩
  · refine (new_any r1 n n false (w4.drewN nq)).mono ?_
    rintro e w6 ⟨rfl, d6, b6⟩
    have b6' : Below w4.heap.size w4 w6 := (below_drewN (Below.refl _ _) nq).trans b6
    have D6 : Hid (Rdr w6 w4.heap.size r1 n n false) := d6
    have E6 : Hid (Rdr w6 w1.heap.size (cut r1 a n) (n - a) (n - a) true) := D4.out.below b6' z4
    have B6 : Hid (Below w.heap.size w w6) := B4.out.trans (b6'.mono (by omega))
    clear d6 b6 b6' F1 F2
    go_wp2_with fail
    refine (zztake_no w4.heap.size r1 n n false ((a : Int) + (b : Int)) w6 D6.out hn (Or.inr (by omega))).mono ?_
    rintro e w7 ⟨rfl, d7, b7⟩
    have D7 : Hid (Rdr w7 w4.heap.size r1 n n true) := d7
    have E7 : Hid (Rdr w7 w1.heap.size (cut r1 a n) (n - a) (n - a) true) := E6.out.below b7 z4
    have B7 : Hid (Below w.heap.size w w7) := B6.out.trans (b7.mono (by omega))
    clear d7 b7 D6 E6 D4 B4 B6
    go_wp2_with fail
    refine (failed_any w4.heap.size r1 n n true _ D7.out).mono ?_
    rintro e w8 ⟨rfl, e8⟩
    obtain rfl := e8.symm
    go_wp2_with fail
    refine (failed_any w1.heap.size _ _ _ true _ E7.out).mono ?_
    rintro e w9 ⟨rfl, e9⟩
    obtain rfl := e9.symm
    go_wp2_with fail
    refine (failed_any w4.heap.size r1 n n true _ D7.out).mono ?_
    rintro e w10 ⟨rfl, e10⟩
    obtain rfl := e10.symm
    go_wp2
    go_ret
    exact ⟨rfl, B7.out⟩

set_option maxRecDepth 100000 in
set_option maxHeartbeats 1000000 in
theorem law_dn (r : Option Addr) (n b c : Nat) (w : World) (hn : n ≤ 1048576) (hnil : r = none → n = 0) (h : Same w.heap.size w r r n)
    (hb : b ≤ 18446744073709551615) (hbn : 0 < b) :
    Calls Trym.prog 4 #[.slice r n c, .bool false, .int .u64 n, .int .u64 b] w fun e w' => e = .returned (.bool true) ∧ Below w.heap.size w w' := by
  have HN : Hid (r = none → n = 0) := hnil
  have HS : Hid (Same w.heap.size w r r n) := h
  clear hnil h
  have heq := fun (W : World) => Lib.run_eql_slice_nil (P := Trym.prog) W 26 5 none 0 0 0 0 Trym.underlying26
  have hA : n ≤ n := by omega
  have hA' : (n : Int) ≤ (n : Int) := by omega
  have hA2 : n ≤ 1048576 := by omega
  have hS2 : n - n ≤ 1048576 := by omega
  have hB : (n : Int) - (n : Int) < (b : Int) := by omega
  go_enter Trym.func4, Trym.ntmps4
  go_wp2_with (go_at_call 10; refine (zzb_yes r n c false _ b _ hn).mono ?_; rintro e w' ⟨rfl, rfl⟩)
  refine (clone_any r n c _ hn HN.out HS.out).mono ?_
  rintro e w1 ⟨r1, rfl, s1, b1⟩
  have S1 : Hid (Same w1.heap.size w1 r1 r1 n) := s1
  clear s1
  go_wp2_with fail
  refine (new_any r1 n n false w1).mono ?_
  rintro e w2 ⟨rfl, d2, b2⟩
  have D2 : Hid (Rdr w2 w1.heap.size r1 n n false) := d2
  clear d2
  go_wp2_with fail
  refine (zztake_yes w1.heap.size r1 n n n w2 D2.out hn (Nat.le_refl _) hA).mono ?_
  rintro e w3 ⟨rfl, d3, b3⟩
  have D3 : Hid (Rdr w3 w1.heap.size (cut r1 n n) (n - n) (n - n) false) := d3
  clear d3
  go_wp2_with fail
  refine (zztake_no w1.heap.size (cut r1 n n) (n - n) (n - n) false b w3 D3.out (by omega) (Or.inr (by omega))).mono ?_
  rintro e w4 ⟨rfl, d4, b4⟩
  have D4 : Hid (Rdr w4 w1.heap.size (cut r1 n n) (n - n) (n - n) true) := d4
  clear d4
  have s4 : Same w1.heap.size w4 r1 r1 n := ((S1.out.below b2 (Nat.le_refl _)).below b3 (Nat.le_refl _)).below b4 (Nat.le_refl _)
  have F1 : Hid (Same w1.heap.size w4 r1 r1 n) := s4.less _ hA
  have F2 : Hid (Same w1.heap.size w4 (cut r1 n n) (r1) (n - n)) := Same.zero _ _ _ _ _ (by omega)
  have B4 : Hid (Below w.heap.size w w4) := b1.trans (((b2.trans b3).trans b4).mono b1.size)
  have z1 : w.heap.size ≤ w1.heap.size := b1.size
  have z4 : w1.heap.size < w4.heap.size := D4.out.lt
  clear b1 b2 b3 b4 S1 D2 D3 s4
  go_wp2_with fail
  go_quiet (first
    | (go_at_call 15; refine Calls.quiet_of (same_eq w1.heap.size _ _ _ _ _ _ _ ?_ ?_ ?_); (first | exact hA2 | exact hS2 | omega); (first | rfl | omega); (first | exact Same.zero _ _ _ _ _ rfl | exact F1.out.drewN _ | exact F2.out.drewN _))
    | (go_at_call 14; exact Calls.quiet_of_same (failed_any w1.heap.size _ _ _ _ _ (D4.out.drewN _)))
    | (go_at_call 16; exact Calls.quiet_of_same (rest_any w1.heap.size _ _ _ _ _ (D4.out.drewN _))))
  go_wp2_with fail
  · go_ret
    exact ⟨rfl, below_drewN B4.out _⟩
  · refine (new_any r1 n n false (w4.drewN nq)).mono ?_
    rintro e w6 ⟨rfl, d6, b6⟩
    have b6' : Below w4.heap.size w4 w6 := (below_drewN (Below.refl _ _) nq).trans b6
    have D6 : Hid (Rdr w6 w4.heap.size r1 n n false) := d6
    have E6 : Hid (Rdr w6 w1.heap.size (cut r1 n n) (n - n) (n - n) true) := D4.out.below b6' z4
    have B6 : Hid (Below w.heap.size w w6) := B4.out.trans (b6'.mono (by omega))
    clear d6 b6 b6' F1 F2
    go_wp2_with fail
    refine (zztake_no w4.heap.size r1 n n false ((n : Int) + (b : Int)) w6 D6.out hn (Or.inr (by omega))).mono ?_
    rintro e w7 ⟨rfl, d7, b7⟩
    have D7 : Hid (Rdr w7 w4.heap.size r1 n n true) := d7
    have E7 : Hid (Rdr w7 w1.heap.size (cut r1 n n) (n - n) (n - n) true) := E6.out.below b7 z4
    have B7 : Hid (Below w.heap.size w w7) := B6.out.trans (b7.mono (by omega))
    clear d7 b7 D6 E6 D4 B4 B6
    go_wp2_with fail
    refine (failed_any w4.heap.size r1 n n true _ D7.out).mono ?_
    rintro e w8 ⟨rfl, e8⟩
    obtain rfl := e8.symm
    go_wp2_with fail
    refine (failed_any w1.heap.size _ _ _ true _ E7.out).mono ?_
    rintro e w9 ⟨rfl, e9⟩
    obtain rfl := e9.symm
    go_wp2_with fail
    refine (failed_any w4.heap.size r1 n n true _ D7.out).mono ?_
    rintro e w10 ⟨rfl, e10⟩
    obtain rfl := e10.symm
    go_wp2
    go_ret
    exact ⟨rfl, B7.out⟩

end Go.Proofs.Qxb6617154aMods.Bytes
