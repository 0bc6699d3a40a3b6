/-
  The walk of FnTakeTwiceIsTakeOfTheSum (function 4 of the dump): both counts fit.
-/
import Derived.Test.Qxb6617154aModsTakeWalk2
namespace Go.Proofs.Qxb6617154aMods.Bytes
open Go.ChangeShapes Go.WideShapes Go.ChangeAt Go.RowKit

set_option maxRecDepth 100000 in
set_option maxHeartbeats 1000000 in
theorem law_e3 (r : Option Addr) (n a b c : Nat) (w : World) (hn : n ≤ 1048576) (hnil : r = none → n = 0) (h : Same w.heap.size w r r (n)) (hlt : a + b < n) :
    Calls Trym.prog 4 #[.slice r (n) c, .bool false, .int .u64 a, .int .u64 b] w fun e w' => e = .returned (.bool true) ∧ Below w.heap.size w w' := by
  have HN : Hid (r = none → n = 0) := hnil
  have HS : Hid (Same w.heap.size w r r (n)) := h
  clear hnil h
  have hA : a ≤ n := by omega
  have hA2 : a ≤ 1048576 := by omega
  have hB2 : b ≤ 1048576 := by omega
  have hAB : a + b ≤ n := by omega
  have hne : ¬ n = a := by omega
  have hne2 : ¬ n = a + b := by omega
  go_enter Trym.func4, Trym.ntmps4
  go_wp2_with (go_at_call 10; refine (zzb_yes r _ c false _ _ _ hn).mono ?_; rintro e w' ⟨rfl, rfl⟩)
  refine (clone_any r _ c _ hn HN.out HS.out).mono ?_
  rintro e w1 ⟨r1, rfl, s1, b1⟩
  have S1 : Hid (Same w1.heap.size w1 r1 r1 (n)) := s1
  clear s1
  go_wp2_with fail
  refine (new_any r1 _ _ false w1).mono ?_
  rintro e w2 ⟨rfl, d2, b2⟩
  have D2 : Hid (Rdr w2 w1.heap.size r1 (n) (n) false) := d2
  clear d2
  go_wp2_with fail
  refine (zztake_yes w1.heap.size r1 _ _ a w2 D2.out hn (Nat.le_refl _) hA).mono ?_
  rintro e w3 ⟨rfl, d3, b3⟩
  have D3 : Hid (Rdr w3 w1.heap.size (cut r1 a (n)) (n - a) (n - a) false) := d3
  clear d3
  go_wp2_with fail
  refine (zztake_yes w1.heap.size (cut r1 a (n)) (n - a) (n - a) b w3 D3.out (by omega) (Nat.le_refl _) (by omega)).mono ?_
  rintro e w4 ⟨rfl, d4, b4⟩
  have D4 : Hid (Rdr w4 w1.heap.size (cut (cut r1 a (n)) b (n - a)) (n - a - b) (n - a - b) false) := d4
  clear d4
  have s4 : Same w1.heap.size w4 r1 r1 (n) := ((S1.out.below b2 (Nat.le_refl _)).below b3 (Nat.le_refl _)).below b4 (Nat.le_refl _)
  have S4 : Hid (Same w1.heap.size w4 r1 r1 (n)) := s4
  have F1 : Hid (Same w1.heap.size w4 r1 r1 a) := s4.less _ hA
  have F2 : Hid (Same w1.heap.size w4 (cut r1 a (n)) (r1.map (fun x => x.add a)) b) := by rw [cut_map r1 a n (by omega)]; exact s4.past a n b (by omega) (by omega)
  have F3 : Hid (Same w1.heap.size w4 (cut (cut r1 a (n)) b (n - a)) (r1.map (fun x => x.add (a + b))) (n - a - b)) := by rw [cut_map r1 (a + b) n (by omega), Nat.sub_sub]; exact (s4.past2 a b (by omega)).symm
  have B4 : Hid (Below w.heap.size w w4) := b1.trans (((b2.trans b3).trans b4).mono b1.size)
  have z1 : w.heap.size ≤ w1.heap.size := b1.size
  have z4 : w1.heap.size < w4.heap.size := D4.out.lt
  clear b1 b2 b3 b4 S1 D2 D3 s4
  go_wp2_with fail
  go_quiet (first
    | (go_at_call 15; refine Calls.quiet_of (same_eq w1.heap.size _ _ _ _ _ _ _ ?_ ?_ ?_); (first | exact hA2 | exact hB2 | omega); (first | rfl | omega); (first | exact Same.zero _ _ _ _ _ rfl | exact F1.out.drewN _ | exact F2.out.drewN _ | exact F3.out.drewN _))
    | (go_at_call 14; exact Calls.quiet_of_same (failed_any w1.heap.size _ _ _ _ _ (D4.out.drewN _)))
    | (go_at_call 16; exact Calls.quiet_of_same (rest_any w1.heap.size _ _ _ _ _ (D4.out.drewN _))))
  go_wp2_with fail
  refine (new_any r1 _ _ false (w4.drewN nq)).mono ?_
  rintro e w6 ⟨rfl, d6, b6⟩
  have b6' : Below w4.heap.size w4 w6 := (below_drewN (Below.refl _ _) nq).trans b6
  have D6 : Hid (Rdr w6 w4.heap.size r1 (n) (n) false) := d6
  have E6 : Hid (Rdr w6 w1.heap.size (cut (cut r1 a (n)) b (n - a)) (n - a - b) (n - a - b) false) := D4.out.below b6' z4
  have S6 : Hid (Same w1.heap.size w6 r1 r1 (n)) := S4.out.below b6' (Nat.le_of_lt z4)
  have B6 : Hid (Below w.heap.size w w6) := B4.out.trans (b6'.mono (by omega))
  clear d6 b6 b6' F1 F2 F3 S4
  go_wp2_with fail
  rw [show ((a : Int) + (b : Int)) = ((a + b : Nat) : Int) from by omega]
  refine (zztake_yes w4.heap.size r1 _ _ (a + b) w6 D6.out hn (Nat.le_refl _) hAB).mono ?_
  rintro e w7 ⟨rfl, d7, b7⟩
  have D7 : Hid (Rdr w7 w4.heap.size (cut r1 (a + b) (n)) (n - (a + b)) (n - (a + b)) false) := d7
  have E7 : Hid (Rdr w7 w1.heap.size (cut (cut r1 a (n)) b (n - a)) (n - a - b) (n - a - b) false) := E6.out.below b7 z4
  have s7 : Same w1.heap.size w7 r1 r1 (n) := S6.out.below b7 (Nat.le_of_lt z4)
  have B7 : Hid (Below w.heap.size w w7) := B6.out.trans (b7.mono (by omega))
  have G1 : Hid (Same w1.heap.size w7 r1 r1 a) := s7.less _ hA
  have G2 : Hid (∀ j, j < b → ∃ g off z, r1 = some ⟨g, off, none⟩ ∧ cut r1 a (n) = some ⟨g, off + a, none⟩ ∧ w7.cell? ⟨g, off + a + j, none⟩ = some (.int .u8 z)) := s7.behind a b hAB
  have G3 : Hid (Same w1.heap.size w7 (cut r1 (a + b) (n)) (cut (cut r1 a (n)) b (n - a)) (n - (a + b))) := s7.past2 a b hAB
  clear d7 b7 D6 E6 D4 B4 B6 S6 s7
  go_wp2_with fail
  refine (failed_any w4.heap.size _ _ _ false _ D7.out).mono ?_
  rintro e w8 ⟨rfl, e8⟩
  obtain rfl := e8.symm
  go_wp2_with fail
  refine (failed_any w1.heap.size _ _ _ false _ E7.out).mono ?_
  rintro e w9 ⟨rfl, e9⟩
  obtain rfl := e9.symm
  go_wp2_with fail
  refine (failed_any w4.heap.size _ _ _ false _ D7.out).mono ?_
  rintro e w10 ⟨rfl, e10⟩
  obtain rfl := e10.symm
  go_wp2_with fail
  refine (concat_any w1.heap.size r1 r1 (cut r1 a (n)) a b _ _ _ w7 (by omega) G1.out G2.out).mono ?_
  rintro e w11 ⟨rfl, m, e11⟩
  subst e11
  go_wp2_with fail
  refine (rest_any w4.heap.size _ _ _ false _ (D7.out.drewN m)).mono ?_
  rintro e w12 ⟨rfl, e12⟩
  obtain rfl := e12.symm
  go_wp2_with fail
  refine (rest_any w1.heap.size _ _ _ false _ (E7.out.drewN m)).mono ?_
  rintro e w13 ⟨rfl, e13⟩
  obtain rfl := e13.symm
  go_wp2_with fail
  refine (same_eq w1.heap.size _ _ _ _ _ _ _ (by omega) (by omega) (G3.out.drewN m)).mono ?_
  rintro e w14 ⟨rfl, m2, e14⟩
  subst e14
  go_wp2
  go_ret
  exact ⟨rfl, below_drewN B7.out _⟩

set_option maxRecDepth 100000 in
set_option maxHeartbeats 1000000 in
theorem law_e2 (r : Option Addr) (a b c : Nat) (w : World) (hn : a + b ≤ 1048576) (hnil : r = none → a + b = 0) (h : Same w.heap.size w r r (a + b)) (hb0 : 0 < b) :
    Calls Trym.prog 4 #[.slice r (a + b) c, .bool false, .int .u64 a, .int .u64 b] w fun e w' => e = .returned (.bool true) ∧ Below w.heap.size w w' := by
  have HN : Hid (r = none → a + b = 0) := hnil
  have HS : Hid (Same w.heap.size w r r (a + b)) := h
  clear hnil h
  have hA : a ≤ a + b := by omega
  have hA2 : a ≤ 1048576 := by omega
  have hB2 : b ≤ 1048576 := by omega
  have hAB : a + b ≤ a + b := by omega
  have hne : ¬ b = 0 := by omega
  go_enter Trym.func4, Trym.ntmps4
  go_wp2_with (go_at_call 10; refine (zzb_yes r _ c false _ _ _ hn).mono ?_; rintro e w' ⟨rfl, rfl⟩)
  refine (clone_any r _ c _ hn HN.out HS.out).mono ?_
  rintro e w1 ⟨r1, rfl, s1, b1⟩
  have S1 : Hid (Same w1.heap.size w1 r1 r1 (a + b)) := s1
  clear s1
  go_wp2_with fail
  refine (new_any r1 _ _ false w1).mono ?_
  rintro e w2 ⟨rfl, d2, b2⟩
  have D2 : Hid (Rdr w2 w1.heap.size r1 (a + b) (a + b) false) := d2
  clear d2
  go_wp2_with fail
  refine (zztake_yes w1.heap.size r1 _ _ a w2 D2.out hn (Nat.le_refl _) hA).mono ?_
  rintro e w3 ⟨rfl, d3, b3⟩
  have D3 : Hid (Rdr w3 w1.heap.size (cut r1 a (a + b)) (a + b - a) (a + b - a) false) := d3
  clear d3
  go_wp2_with fail
  refine (zztake_yes w1.heap.size (cut r1 a (a + b)) (a + b - a) (a + b - a) b w3 D3.out (by omega) (Nat.le_refl _) (by omega)).mono ?_
  rintro e w4 ⟨rfl, d4, b4⟩
  have D4 : Hid (Rdr w4 w1.heap.size (cut (cut r1 a (a + b)) b (a + b - a)) (a + b - a - b) (a + b - a - b) false) := d4
  clear d4
  have s4 : Same w1.heap.size w4 r1 r1 (a + b) := ((S1.out.below b2 (Nat.le_refl _)).below b3 (Nat.le_refl _)).below b4 (Nat.le_refl _)
  have S4 : Hid (Same w1.heap.size w4 r1 r1 (a + b)) := s4
  have F1 : Hid (Same w1.heap.size w4 r1 r1 a) := s4.less _ hA
  have F2 : Hid (Same w1.heap.size w4 (cut r1 a (a + b)) (r1.map (fun x => x.add a)) b) := by rw [cut_map r1 a (a + b) (by omega)]; exact s4.past a (a + b) b (by omega) (by omega)
  have F3 : Hid (Same w1.heap.size w4 (cut (cut r1 a (a + b)) b (a + b - a)) (r1) (a + b - a - b)) := Same.zero _ _ _ _ _ (by omega)
  have B4 : Hid (Below w.heap.size w w4) := b1.trans (((b2.trans b3).trans b4).mono b1.size)
  have z1 : w.heap.size ≤ w1.heap.size := b1.size
  have z4 : w1.heap.size < w4.heap.size := D4.out.lt
  clear b1 b2 b3 b4 S1 D2 D3 s4
  go_wp2_with fail
  go_quiet (first
    | (go_at_call 15; refine Calls.quiet_of (same_eq w1.heap.size _ _ _ _ _ _ _ ?_ ?_ ?_); (first | exact hA2 | exact hB2 | omega); (first | rfl | omega); (first | exact Same.zero _ _ _ _ _ rfl | exact F1.out.drewN _ | exact F2.out.drewN _ | exact F3.out.drewN _))
    | (go_at_call 14; exact Calls.quiet_of_same (failed_any w1.heap.size _ _ _ _ _ (D4.out.drewN _)))
    | (go_at_call 16; exact Calls.quiet_of_same (rest_any w1.heap.size _ _ _ _ _ (D4.out.drewN _))))
  go_wp2_with fail
  refine (new_any r1 _ _ false (w4.drewN nq)).mono ?_
  rintro e w6 ⟨rfl, d6, b6⟩
  have b6' : Below w4.heap.size w4 w6 := (below_drewN (Below.refl _ _) nq).trans b6
  have D6 : Hid (Rdr w6 w4.heap.size r1 (a + b) (a + b) false) := d6
  have E6 : Hid (Rdr w6 w1.heap.size (cut (cut r1 a (a + b)) b (a + b - a)) (a + b - a - b) (a + b - a - b) false) := D4.out.below b6' z4
  have S6 : Hid (Same w1.heap.size w6 r1 r1 (a + b)) := S4.out.below b6' (Nat.le_of_lt z4)
  have B6 : Hid (Below w.heap.size w w6) := B4.out.trans (b6'.mono (by omega))
  clear d6 b6 b6' F1 F2 F3 S4
  go_wp2_with fail
  rw [show ((a : Int) + (b : Int)) = ((a + b : Nat) : Int) from by omega]
  refine (zztake_yes w4.heap.size r1 _ _ (a + b) w6 D6.out hn (Nat.le_refl _) hAB).mono ?_
  rintro e w7 ⟨rfl, d7, b7⟩
  have D7 : Hid (Rdr w7 w4.heap.size (cut r1 (a + b) (a + b)) (a + b - (a + b)) (a + b - (a + b)) false) := d7
  have E7 : Hid (Rdr w7 w1.heap.size (cut (cut r1 a (a + b)) b (a + b - a)) (a + b - a - b) (a + b - a - b) false) := E6.out.below b7 z4
  have s7 : Same w1.heap.size w7 r1 r1 (a + b) := S6.out.below b7 (Nat.le_of_lt z4)
  have B7 : Hid (Below w.heap.size w w7) := B6.out.trans (b7.mono (by omega))
  have G1 : Hid (Same w1.heap.size w7 r1 r1 a) := s7.less _ hA
  have G2 : Hid (∀ j, j < b → ∃ g off z, r1 = some ⟨g, off, none⟩ ∧ cut r1 a (a + b) = some ⟨g, off + a, none⟩ ∧ w7.cell? ⟨g, off + a + j, none⟩ = some (.int .u8 z)) := s7.behind a b hAB
  have G3 : Hid (Same w1.heap.size w7 (cut r1 (a + b) (a + b)) (cut (cut r1 a (a + b)) b (a + b - a)) (a + b - (a + b))) := s7.past2 a b hAB
  clear d7 b7 D6 E6 D4 B4 B6 S6 s7
  go_wp2_with fail
  refine (failed_any w4.heap.size _ _ _ false _ D7.out).mono ?_
  rintro e w8 ⟨rfl, e8⟩
  obtain rfl := e8.symm
  go_wp2_with fail
  refine (failed_any w1.heap.size _ _ _ false _ E7.out).mono ?_
  rintro e w9 ⟨rfl, e9⟩
  obtain rfl := e9.symm
  go_wp2_with fail
  refine (failed_any w4.heap.size _ _ _ false _ D7.out).mono ?_
  rintro e w10 ⟨rfl, e10⟩
  obtain rfl := e10.symm
  go_wp2_with fail
  refine (concat_any w1.heap.size r1 r1 (cut r1 a (a + b)) a b _ _ _ w7 (by omega) G1.out G2.out).mono ?_
  rintro e w11 ⟨rfl, m, e11⟩
  subst e11
  go_wp2_with fail
  refine (rest_any w4.heap.size _ _ _ false _ (D7.out.drewN m)).mono ?_
  rintro e w12 ⟨rfl, e12⟩
  obtain rfl := e12.symm
  go_wp2_with fail
  refine (rest_any w1.heap.size _ _ _ false _ (E7.out.drewN m)).mono ?_
  rintro e w13 ⟨rfl, e13⟩
  obtain rfl := e13.symm
  go_wp2_with fail
  refine (same_eq w1.heap.size _ _ _ _ _ _ _ (by omega) (by omega) (Same.zero _ _ _ _ _ rfl)).mono ?_
  rintro e w14 ⟨rfl, m2, e14⟩
  subst e14
  go_wp2
  go_ret
  exact ⟨rfl, below_drewN B7.out _⟩

set_option maxRecDepth 100000 in
set_option maxHeartbeats 1000000 in
theorem law_e1 (r : Option Addr) (a c : Nat) (w : World) (hn : a ≤ 1048576) (hnil : r = none → a = 0) (h : Same w.heap.size w r r (a)) :
    Calls Trym.prog 4 #[.slice r (a) c, .bool false, .int .u64 a, .int .u64 0] w fun e w' => e = .returned (.bool true) ∧ Below w.heap.size w w' := by
  have HN : Hid (r = none → a = 0) := hnil
  have HS : Hid (Same w.heap.size w r r (a)) := h
  clear hnil h
  have hA : a ≤ a := by omega
  have hA2 : a ≤ 1048576 := by omega
  have hB2 : 0 ≤ 1048576 := by omega
  have hAB : a + 0 ≤ a := by omega

  go_enter Trym.func4, Trym.ntmps4
  go_wp2_with (go_at_call 10; refine (zzb_yes r _ c false _ _ _ hn).mono ?_; rintro e w' ⟨rfl, rfl⟩)
  refine (clone_any r _ c _ hn HN.out HS.out).mono ?_
  rintro e w1 ⟨r1, rfl, s1, b1⟩
  have S1 : Hid (Same w1.heap.size w1 r1 r1 (a)) := s1
  clear s1
  go_wp2_with fail
  refine (new_any r1 _ _ false w1).mono ?_
  rintro e w2 ⟨rfl, d2, b2⟩
  have D2 : Hid (Rdr w2 w1.heap.size r1 (a) (a) false) := d2
  clear d2
  go_wp2_with fail
  refine (zztake_yes w1.heap.size r1 _ _ a w2 D2.out hn (Nat.le_refl _) hA).mono ?_
  rintro e w3 ⟨rfl, d3, b3⟩
  have D3 : Hid (Rdr w3 w1.heap.size (cut r1 a (a)) (a - a) (a - a) false) := d3
  clear d3
  go_wp2_with fail
  refine (zztake_yes w1.heap.size (cut r1 a (a)) (a - a) (a - a) 0 w3 D3.out (by omega) (Nat.le_refl _) (by omega)).mono ?_
  rintro e w4 ⟨rfl, d4, b4⟩
  have D4 : Hid (Rdr w4 w1.heap.size (cut (cut r1 a (a)) 0 (a - a)) (a - a - 0) (a - a - 0) false) := d4
  clear d4
  have s4 : Same w1.heap.size w4 r1 r1 (a) := ((S1.out.below b2 (Nat.le_refl _)).below b3 (Nat.le_refl _)).below b4 (Nat.le_refl _)
  have S4 : Hid (Same w1.heap.size w4 r1 r1 (a)) := s4
  have F1 : Hid (Same w1.heap.size w4 r1 r1 a) := s4.less _ hA
  have F2 : Hid (Same w1.heap.size w4 (cut r1 a (a)) (r1) 0) := Same.zero _ _ _ _ _ rfl
  have F3 : Hid (Same w1.heap.size w4 (cut (cut r1 a (a)) 0 (a - a)) (r1) (a - a - 0)) := Same.zero _ _ _ _ _ (by omega)
  have B4 : Hid (Below w.heap.size w w4) := b1.trans (((b2.trans b3).trans b4).mono b1.size)
  have z1 : w.heap.size ≤ w1.heap.size := b1.size
  have z4 : w1.heap.size < w4.heap.size := D4.out.lt
  clear b1 b2 b3 b4 S1 D2 D3 s4
  go_wp2_with fail
  go_quiet (first
    | (go_at_call 15; refine Calls.quiet_of (same_eq w1.heap.size _ _ _ _ _ _ _ ?_ ?_ ?_); (first | exact hA2 | exact hB2 | omega); (first | rfl | omega); (first | exact Same.zero _ _ _ _ _ rfl | exact F1.out.drewN _ | exact F2.out.drewN _ | exact F3.out.drewN _))
    | (go_at_call 14; exact Calls.quiet_of_same (failed_any w1.heap.size _ _ _ _ _ (D4.out.drewN _)))
    | (go_at_call 16; exact Calls.quiet_of_same (rest_any w1.heap.size _ _ _ _ _ (D4.out.drewN _))))
  go_wp2_with fail
  refine (new_any r1 _ _ false (w4.drewN nq)).mono ?_
  rintro e w6 ⟨rfl, d6, b6⟩
  have b6' : Below w4.heap.size w4 w6 := (below_drewN (Below.refl _ _) nq).trans b6
  have D6 : Hid (Rdr w6 w4.heap.size r1 (a) (a) false) := d6
  have E6 : Hid (Rdr w6 w1.heap.size (cut (cut r1 a (a)) 0 (a - a)) (a - a - 0) (a - a - 0) false) := D4.out.below b6' z4
  have S6 : Hid (Same w1.heap.size w6 r1 r1 (a)) := S4.out.below b6' (Nat.le_of_lt z4)
  have B6 : Hid (Below w.heap.size w w6) := B4.out.trans (b6'.mono (by omega))
  clear d6 b6 b6' F1 F2 F3 S4
  go_wp2_with fail
  refine (zztake_yes w4.heap.size r1 _ _ (a) w6 D6.out hn (Nat.le_refl _) hAB).mono ?_
  rintro e w7 ⟨rfl, d7, b7⟩
  have D7 : Hid (Rdr w7 w4.heap.size (cut r1 (a) (a)) (a - (a)) (a - (a)) false) := d7
  have E7 : Hid (Rdr w7 w1.heap.size (cut (cut r1 a (a)) 0 (a - a)) (a - a - 0) (a - a - 0) false) := E6.out.below b7 z4
  have s7 : Same w1.heap.size w7 r1 r1 (a) := S6.out.below b7 (Nat.le_of_lt z4)
  have B7 : Hid (Below w.heap.size w w7) := B6.out.trans (b7.mono (by omega))
  have G1 : Hid (Same w1.heap.size w7 r1 r1 a) := s7.less _ hA
  have G2 : Hid (∀ j, j < 0 → ∃ g off z, r1 = some ⟨g, off, none⟩ ∧ cut r1 a (a) = some ⟨g, off + a, none⟩ ∧ w7.cell? ⟨g, off + a + j, none⟩ = some (.int .u8 z)) := s7.behind a 0 hAB
  have G3 : Hid (Same w1.heap.size w7 (cut r1 (a) (a)) (cut (cut r1 a (a)) 0 (a - a)) (a - (a))) := s7.past2 a 0 hAB
  clear d7 b7 D6 E6 D4 B4 B6 S6 s7
  go_wp2_with fail
  refine (failed_any w4.heap.size _ _ _ false _ D7.out).mono ?_
  rintro e w8 ⟨rfl, e8⟩
  obtain rfl := e8.symm
  go_wp2_with fail
  refine (failed_any w1.heap.size _ _ _ false _ E7.out).mono ?_
  rintro e w9 ⟨rfl, e9⟩
  obtain rfl := e9.symm
  go_wp2_with fail
  refine (failed_any w4.heap.size _ _ _ false _ D7.out).mono ?_
  rintro e w10 ⟨rfl, e10⟩
  obtain rfl := e10.symm
  go_wp2_with fail
  refine (concat_any w1.heap.size r1 r1 (cut r1 a (a)) a 0 _ _ _ w7 (by omega) G1.out G2.out).mono ?_
  rintro e w11 ⟨rfl, m, e11⟩
  subst e11
  go_wp2_with fail
  refine (rest_any w4.heap.size _ _ _ false _ (D7.out.drewN m)).mono ?_
  rintro e w12 ⟨rfl, e12⟩
  obtain rfl := e12.symm
  go_wp2_with fail
  refine (rest_any w1.heap.size _ _ _ false _ (E7.out.drewN m)).mono ?_
  rintro e w13 ⟨rfl, e13⟩
  obtain rfl := e13.symm
  go_wp2_with fail
  refine (same_eq w1.heap.size _ _ _ _ _ _ _ (by omega) (by omega) (Same.zero _ _ _ _ _ rfl)).mono ?_
  rintro e w14 ⟨rfl, m2, e14⟩
  subst e14
  go_wp2
  go_ret
  exact ⟨rfl, below_drewN B7.out _⟩

end Go.Proofs.Qxb6617154aMods.Bytes
