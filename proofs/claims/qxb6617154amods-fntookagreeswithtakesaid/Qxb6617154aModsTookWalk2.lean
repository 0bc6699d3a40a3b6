/-
  The walk of FnTookAgreesWithTake (function 5 of the dump).
-/
import Derived.Test.Qxb6617154aModsTookWalk
namespace Go.Proofs.Qxb6617154aMods.Bytes
open Go.ChangeShapes Go.WideShapes Go.ChangeAt Go.RowKit

set_option maxRecDepth 100000 in
set_option maxHeartbeats 1000000 in
theorem took_yl (r : Option Addr) (n k c : Nat) (v : Int) (w : World) (hn : n ≤ 1048576) (hnil : r = none → n = 0) (h : Same w.heap.size w r r n) (hk0 : 0 < k) (hlt : k < n) :
    Calls Trym.prog 5 #[.slice r n c, .bool false, .int .i64 k, .int .u64 v] w fun e w' => e = .returned (.bool true) ∧ Below w.heap.size w w' := by
  have HN : Hid (r = none → n = 0) := hnil
  have HS : Hid (Same w.heap.size w r r n) := h
  clear hnil h
  have hK : k ≤ n := by omega
  have hK2 : n - k ≤ 1048576 := by omega
  have hne : ¬ n = k := by omega
  have hk1 : ¬ (k : Int) ≤ 0 := by omega
  go_enter Trym.func5, Trym.ntmps5
  go_wp2_with (go_at_call 18; refine (zzt_yes r n c false _ v _ hn).mono ?_; rintro e w' ⟨rfl, rfl⟩)
  refine (clone_any r n c _ hn HN.out HS.out).mono ?_
  rintro e w1 ⟨r1, rfl, s1, b1⟩
  have S1 : Hid (Same w1.heap.size w1 r1 r1 n) := s1
  clear s1
  go_wp2_with fail
  refine (new_any r1 n n false w1).mono ?_
  rintro e w2 ⟨rfl, d2, b2⟩
  have D2 : Hid (Rdr w2 w1.heap.size r1 n n false) := d2
  clear d2
  go_wp2_with fail
  refine (zztook_yes w1.heap.size r1 n n k v w2 D2.out hn (Nat.le_refl _) hk0 hK).mono ?_
  rintro e w4 ⟨rfl, d4, b4⟩
  have D4 : Hid (Rdr w4 w1.heap.size (cut r1 k n) (n - k) (n - k) false) := d4
  clear d4
  have s4 : Same w1.heap.size w4 r1 r1 n := (S1.out.below b2 (Nat.le_refl _)).below b4 (Nat.le_refl _)
  have S4 : Hid (Same w1.heap.size w4 r1 r1 n) := s4
  have F2 : Hid (Same w1.heap.size w4 (cut r1 k n) (r1.map (fun x => x.add k)) (n - k)) := by rw [cut_map r1 k n (by omega)]; exact s4.past k n (n - k) (by omega) (by omega)
  have B4 : Hid (Below w.heap.size w w4) := b1.trans ((b2.trans b4).mono b1.size)
  have z1 : w.heap.size ≤ w1.heap.size := b1.size
  have z4 : w1.heap.size < w4.heap.size := D4.out.lt
  clear b1 b2 b4 S1 D2 s4
  go_wp2_with fail
  go_quiet (first
    | (go_at_call 15; refine Calls.quiet_of (same_eq w1.heap.size _ _ _ _ _ _ _ ?_ ?_ ?_); (first | exact hK2 | omega); (first | rfl | omega); (first | exact Same.zero _ _ _ _ _ rfl | exact F2.out.drewN _))
    | (go_at_call 14; exact Calls.quiet_of_same (failed_any w1.heap.size _ _ _ _ _ (D4.out.drewN _)))
    | (go_at_call 16; exact Calls.quiet_of_same (rest_any w1.heap.size _ _ _ _ _ (D4.out.drewN _))))
  go_wp2_with fail
  refine (new_any r1 n n false (w4.drewN nq)).mono ?_
  rintro e w6 ⟨rfl, d6, b6⟩
  have b6' : Below w4.heap.size w4 w6 := (below_drewN (Below.refl _ _) nq).trans b6
  have D6 : Hid (Rdr w6 w4.heap.size r1 n n false) := d6
  have E6 : Hid (Rdr w6 w1.heap.size (cut r1 k n) (n - k) (n - k) false) := D4.out.below b6' z4
  have S6 : Hid (Same w1.heap.size w6 r1 r1 n) := S4.out.below b6' (Nat.le_of_lt z4)
  have B6 : Hid (Below w.heap.size w w6) := B4.out.trans (b6'.mono (by omega))
  clear d6 b6 b6' F2 S4
  go_wp2_with fail
  refine (zztake_yes w4.heap.size r1 n n k w6 D6.out hn (Nat.le_refl _) hK).mono ?_
  rintro e w7 ⟨rfl, d7, b7⟩
  have D7 : Hid (Rdr w7 w4.heap.size (cut r1 k n) (n - k) (n - k) false) := d7
  have E7 : Hid (Rdr w7 w1.heap.size (cut r1 k n) (n - k) (n - k) false) := E6.out.below b7 z4
  have s7 : Same w1.heap.size w7 r1 r1 n := S6.out.below b7 (Nat.le_of_lt z4)
  have G3 : Hid (Same w1.heap.size w7 (cut r1 k n) (cut r1 k n) (n - k)) := s7.past k n (n - k) (by omega) (by omega)
  have B7 : Hid (Below w.heap.size w w7) := B6.out.trans (b7.mono (by omega))
  clear d7 b7 D6 E6 D4 B4 B6 S6 s7
  go_wp2_with fail
  refine (failed_any w4.heap.size _ _ _ false _ D7.out).mono ?_
  rintro e w8 ⟨rfl, e8⟩
  obtain rfl := e8.symm
  go_wp2_with fail
  refine (failed_any w1.heap.size _ _ _ false _ E7.out).mono ?_
  rintro e w9 ⟨rfl, e9⟩
  obtain rfl := e9.symm
  go_wp2_with fail
  refine (rest_any w4.heap.size _ _ _ false _ D7.out).mono ?_
  rintro e w10 ⟨rfl, e10⟩
  obtain rfl := e10.symm
  go_wp2_with fail
  refine (rest_any w1.heap.size _ _ _ false _ E7.out).mono ?_
  rintro e w11 ⟨rfl, e11⟩
  obtain rfl := e11.symm
  go_wp2_with fail
  refine (same_eq w1.heap.size _ _ _ _ _ _ _ (by omega) rfl G3.out).mono ?_
  rintro e w12 ⟨rfl, m2, e12⟩
  subst e12
  go_wp2
  go_ret
  exact ⟨rfl, below_drewN B7.out _⟩

set_option maxRecDepth 100000 in
set_option maxHeartbeats 1000000 in
theorem took_yn (r : Option Addr) (n c : Nat) (v : Int) (w : World) (hn : n ≤ 1048576) (hnil : r = none → n = 0) (h : Same w.heap.size w r r n) (hk0 : 0 < n) :
    Calls Trym.prog 5 #[.slice r n c, .bool false, .int .i64 n, .int .u64 v] w fun e w' => e = .returned (.bool true) ∧ Below w.heap.size w w' := by
  have HN : Hid (r = none → n = 0) := hnil
  have HS : Hid (Same w.heap.size w r r n) := h
  clear hnil h
  have hK : n ≤ n := by omega
  have hK2 : n - n ≤ 1048576 := by omega
  have hk1 : ¬ (n : Int) ≤ 0 := by omega
  go_enter Trym.func5, Trym.ntmps5
  go_wp2_with (go_at_call 18; refine (zzt_yes r n c false _ v _ hn).mono ?_; rintro e w' ⟨rfl, rfl⟩)
  refine (clone_any r n c _ hn HN.out HS.out).mono ?_
  rintro e w1 ⟨r1, rfl, s1, b1⟩
  have S1 : Hid (Same w1.heap.size w1 r1 r1 n) := s1
  clear s1
  go_wp2_with fail
  refine (new_any r1 n n false w1).mono ?_
  rintro e w2 ⟨rfl, d2, b2⟩
  have D2 : Hid (Rdr w2 w1.heap.size r1 n n false) := d2
  clear d2
  go_wp2_with fail
  refine (zztook_yes w1.heap.size r1 n n n v w2 D2.out hn (Nat.le_refl _) hk0 hK).mono ?_
  rintro e w4 ⟨rfl, d4, b4⟩
  have D4 : Hid (Rdr w4 w1.heap.size (cut r1 n n) (n - n) (n - n) false) := d4
  clear d4
  have s4 : Same w1.heap.size w4 r1 r1 n := (S1.out.below b2 (Nat.le_refl _)).below b4 (Nat.le_refl _)
  have S4 : Hid (Same w1.heap.size w4 r1 r1 n) := s4
  have F2 : Hid (Same w1.heap.size w4 (cut r1 n n) (r1) (n - n)) := Same.zero _ _ _ _ _ (by omega)
  have B4 : Hid (Below w.heap.size w w4) := b1.trans ((b2.trans b4).mono b1.size)
  have z1 : w.heap.size ≤ w1.heap.size := b1.size
  have z4 : w1.heap.size < w4.heap.size := D4.out.lt
  clear b1 b2 b4 S1 D2 s4
  go_wp2_with fail
  go_quiet (first
    | (go_at_call 15; refine Calls.quiet_of (same_eq w1.heap.size _ _ _ _ _ _ _ ?_ ?_ ?_); (first | exact hK2 | omega); (first | rfl | omega); (first | exact Same.zero _ _ _ _ _ rfl | exact F2.out.drewN _))
    | (go_at_call 14; exact Calls.quiet_of_same (failed_any w1.heap.size _ _ _ _ _ (D4.out.drewN _)))
    | (go_at_call 16; exact Calls.quiet_of_same (rest_any w1.heap.size _ _ _ _ _ (D4.out.drewN _))))
  go_wp2_with fail
  refine (new_any r1 n n false (w4.drewN nq)).mono ?_
  rintro e w6 ⟨rfl, d6, b6⟩
  have b6' : Below w4.heap.size w4 w6 := (below_drewN (Below.refl _ _) nq).trans b6
  have D6 : Hid (Rdr w6 w4.heap.size r1 n n false) := d6
  have E6 : Hid (Rdr w6 w1.heap.size (cut r1 n n) (n - n) (n - n) false) := D4.out.below b6' z4
  have S6 : Hid (Same w1.heap.size w6 r1 r1 n) := S4.out.below b6' (Nat.le_of_lt z4)
  have B6 : Hid (Below w.heap.size w w6) := B4.out.trans (b6'.mono (by omega))
  clear d6 b6 b6' F2 S4
  go_wp2_with fail
  refine (zztake_yes w4.heap.size r1 n n n w6 D6.out hn (Nat.le_refl _) hK).mono ?_
  rintro e w7 ⟨rfl, d7, b7⟩
  have D7 : Hid (Rdr w7 w4.heap.size (cut r1 n n) (n - n) (n - n) false) := d7
  have E7 : Hid (Rdr w7 w1.heap.size (cut r1 n n) (n - n) (n - n) false) := E6.out.below b7 z4
  have s7 : Same w1.heap.size w7 r1 r1 n := S6.out.below b7 (Nat.le_of_lt z4)
  have G3 : Hid (Same w1.heap.size w7 (cut r1 n n) (cut r1 n n) (n - n)) := s7.past n n (n - n) (by omega) (by omega)
  have B7 : Hid (Below w.heap.size w w7) := B6.out.trans (b7.mono (by omega))
  clear d7 b7 D6 E6 D4 B4 B6 S6 s7
  go_wp2_with fail
  refine (failed_any w4.heap.size _ _ _ false _ D7.out).mono ?_
  rintro e w8 ⟨rfl, e8⟩
  obtain rfl := e8.symm
  go_wp2_with fail
  refine (failed_any w1.heap.size _ _ _ false _ E7.out).mono ?_
  rintro e w9 ⟨rfl, e9⟩
  obtain rfl := e9.symm
  go_wp2_with fail
  refine (rest_any w4.heap.size _ _ _ false _ D7.out).mono ?_
  rintro e w10 ⟨rfl, e10⟩
  obtain rfl := e10.symm
  go_wp2_with fail
  refine (rest_any w1.heap.size _ _ _ false _ E7.out).mono ?_
  rintro e w11 ⟨rfl, e11⟩
  obtain rfl := e11.symm
  go_wp2_with fail
  refine (same_eq w1.heap.size _ _ _ _ _ _ _ (by omega) (by omega) (Same.zero _ _ _ _ _ rfl)).mono ?_
  rintro e w12 ⟨rfl, m2, e12⟩
  subst e12
  go_wp2
  go_ret
  exact ⟨rfl, below_drewN B7.out _⟩

end Go.Proofs.Qxb6617154aMods.Bytes
