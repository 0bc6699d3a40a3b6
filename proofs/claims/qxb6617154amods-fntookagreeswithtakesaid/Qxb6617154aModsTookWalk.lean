/-
  The walk of FnTookAgreesWithTake (function 5 of the dump).
-/
import Derived.Test.Qxb6617154aModsTakeWalk
namespace Go.Proofs.Qxb6617154aMods.Bytes
open Go.ChangeShapes Go.WideShapes Go.ChangeAt Go.RowKit

theorem zzt_yes (r : Option Addr) (n c : Nat) (f : Bool) (a b : Int) (w : World) (h : n ≤ 1048576) :
    Calls Trym.prog 18 #[.slice r n c, .bool f, .int .i64 a, .int .u64 b] w fun e w' => e = .returned (.bool true) ∧ w = w' := by
  go_enter Trym.func18, Trym.ntmps18
  go_wp2
  go_ret
  exact ⟨rfl, rfl⟩

theorem zzt_no (r : Option Addr) (n c : Nat) (f : Bool) (a b : Int) (w : World) (h : 1048576 < n) :
    Calls Trym.prog 18 #[.slice r n c, .bool f, .int .i64 a, .int .u64 b] w fun e w' => e = .returned (.bool false) ∧ w = w' := by
  go_enter Trym.func18, Trym.ntmps18
  go_wp2
  go_ret
  exact ⟨rfl, rfl⟩

theorem wrap_neg (k : Int) (n : Nat) (hn : n ≤ 1048576) (h1 : -9223372036854775808 ≤ k) (h2 : k ≤ 0) (h3 : (k == 0) = false) : (n : Int) < IntKind.u64.wrap k := by
  have h0 : k ≠ 0 := by simpa using h3
  simp only [IntKind.wrap, IntKind.signed, IntKind.bits]
  simp
  omega

set_option maxRecDepth 100000 in
set_option maxHeartbeats 1000000 in
theorem took_b (r : Option Addr) (n c : Nat) (k v : Int) (w : World) (hn : n ≤ 1048576) (hnil : r = none → n = 0) (h : Same w.heap.size w r r n) :
    Calls Trym.prog 5 #[.slice r n c, .bool true, .int .i64 k, .int .u64 v] w fun e w' => e = .returned (.bool true) ∧ Below w.heap.size w w' := by
  have HN : Hid (r = none → n = 0) := hnil
  have HS : Hid (Same w.heap.size w r r n) := h
  clear hnil h

  go_enter Trym.func5, Trym.ntmps5
  go_wp2_with (go_at_call 18; refine (zzt_yes r n c true k v _ hn).mono ?_; rintro e w' ⟨rfl, rfl⟩)
  refine (clone_any r n c _ hn HN.out HS.out).mono ?_
  rintro e w1 ⟨r1, rfl, s1, b1⟩
  have S1 : Hid (Same w1.heap.size w1 r1 r1 n) := s1
  clear s1
  go_wp2_with fail
  refine (new_any r1 n n true w1).mono ?_
  rintro e w2 ⟨rfl, d2, b2⟩
  have D2 : Hid (Rdr w2 w1.heap.size r1 n n true) := d2
  clear d2
  go_wp2_with fail
  refine (zztook_no w1.heap.size r1 n n true k v w2 D2.out (Or.inl rfl)).mono ?_
  rintro e w4 ⟨rfl, d4, b4⟩
  have D4 : Hid (Rdr w4 w1.heap.size r1 n n true) := d4
  clear d4
  have s4 : Hid (Same w1.heap.size w4 r1 r1 n) := (S1.out.below b2 (Nat.le_refl _)).below b4 (Nat.le_refl _)
  have B4 : Hid (Below w.heap.size w w4) := b1.trans ((b2.trans b4).mono b1.size)
  have z1 : w.heap.size ≤ w1.heap.size := b1.size
  have z4 : w1.heap.size < w4.heap.size := D4.out.lt
  clear b1 b2 b4 S1 D2
  go_wp2_with (first | (go_at_call 14; refine (failed_any w1.heap.size r1 n n true _ D4.out).mono ?_; rintro e w5 ⟨rfl, e5⟩; obtain rfl := e5.symm) | (go_at_call 16; refine (rest_any w1.heap.size r1 n n true _ D4.out).mono ?_; rintro e w5 ⟨rfl, e5⟩; obtain rfl := e5.symm) | (go_at_call 15; refine (same_any _ r1 r1 n n n _ hn s4.out).mono ?_; rintro e w5 ⟨rfl, m, e5⟩; subst e5))
  · go_ret
    exact ⟨rfl, below_drewN B4.out _⟩
  · refine (new_any r1 n n true (w4.drewN m)).mono ?_
    rintro e w6 ⟨rfl, d6, b6⟩
    have b6' : Below w4.heap.size w4 w6 := (below_drewN (Below.refl _ _) m).trans b6
    have D6 : Hid (Rdr w6 w4.heap.size r1 n n true) := d6
    have E6 : Hid (Rdr w6 w1.heap.size r1 n n true) := D4.out.below b6' z4
    have S6 : Hid (Same w1.heap.size w6 r1 r1 n) := s4.out.below b6' (Nat.le_of_lt z4)
    have B6 : Hid (Below w.heap.size w w6) := B4.out.trans (b6'.mono (by omega))
    clear d6 b6 b6' s4
    go_wp2_with fail
    refine (zztake_no w4.heap.size r1 n n true _ w6 D6.out hn (Or.inl rfl)).mono ?_
    rintro e w7 ⟨rfl, d7, b7⟩
    have D7 : Hid (Rdr w7 w4.heap.size r1 n n true) := d7
    have E7 : Hid (Rdr w7 w1.heap.size r1 n n true) := E6.out.below b7 z4
    have S7 : Hid (Same w1.heap.size w7 r1 r1 n) := S6.out.below b7 (Nat.le_of_lt z4)
    have B7 : Hid (Below w.heap.size w w7) := B6.out.trans (b7.mono (by omega))
    clear d7 b7 D6 E6 D4 B4 B6 S6
    go_wp2_with fail
    refine (failed_any w4.heap.size r1 n n true _ D7.out).mono ?_
    rintro e w8 ⟨rfl, e8⟩
    obtain rfl := e8.symm
    go_wp2_with fail
    refine (failed_any w1.heap.size r1 n n true _ E7.out).mono ?_
    rintro e w9 ⟨rfl, e9⟩
    obtain rfl := e9.symm
    go_wp2_with fail
    refine (rest_any w4.heap.size r1 n n true _ D7.out).mono ?_
    rintro e w10 ⟨rfl, e10⟩
    obtain rfl := e10.symm
    go_wp2_with fail
    refine (rest_any w1.heap.size r1 n n true _ E7.out).mono ?_
    rintro e w11 ⟨rfl, e11⟩
    obtain rfl := e11.symm
    go_wp2_with fail
    refine (same_any _ r1 r1 n n n _ hn S7.out).mono ?_
    rintro e w12 ⟨rfl, m2, e12⟩
    subst e12
    go_wp2
    go_ret
    exact ⟨rfl, below_drewN B7.out _⟩

set_option maxRecDepth 100000 in
set_option maxHeartbeats 1000000 in
theorem took_c (r : Option Addr) (n c : Nat) (k v : Int) (w : World) (hn : n ≤ 1048576) (hnil : r = none → n = 0) (h : Same w.heap.size w r r n)
    (hk1 : -9223372036854775808 ≤ k) (hk0 : k ≤ 0) :
    Calls Trym.prog 5 #[.slice r n c, .bool false, .int .i64 k, .int .u64 v] w fun e w' => e = .returned (.bool true) ∧ Below w.heap.size w w' := by
  have HN : Hid (r = none → n = 0) := hnil
  have HS : Hid (Same w.heap.size w r r n) := h
  clear hnil h
  have hkn : ¬ (n : Int) < k := by omega
  go_enter Trym.func5, Trym.ntmps5
  go_wp2_with (go_at_call 18; refine (zzt_yes r n c false k v _ hn).mono ?_; rintro e w' ⟨rfl, rfl⟩)
  refine (clone_any r n c _ hn HN.out HS.out).mono ?_
  rintro e w1 ⟨r1, rfl, s1, b1⟩
  have S1 : Hid (Same w1.heap.size w1 r1 r1 n) := s1
  clear s1
  go_wp2_with fail
  refine (new_any r1 n n false w1).mono ?_
  rintro e w2 ⟨rfl, d2, b2⟩
  have D2 : Hid (Rdr w2 w1.heap.size r1 n n false) := d2
  clear d2
  go_wp2_with fail
  refine (zztook_no w1.heap.size r1 n n false k v w2 D2.out (Or.inr hk0)).mono ?_
  rintro e w4 ⟨rfl, d4, b4⟩
  have D4 : Hid (Rdr w4 w1.heap.size r1 n n true) := d4
  clear d4
  have s4 : Hid (Same w1.heap.size w4 r1 r1 n) := (S1.out.below b2 (Nat.le_refl _)).below b4 (Nat.le_refl _)
  have B4 : Hid (Below w.heap.size w w4) := b1.trans ((b2.trans b4).mono b1.size)
  have z1 : w.heap.size ≤ w1.heap.size := b1.size
  have z4 : w1.heap.size < w4.heap.size := D4.out.lt
  clear b1 b2 b4 S1 D2
  go_wp2_with (first | (go_at_call 14; refine (failed_any w1.heap.size r1 n n true _ D4.out).mono ?_; rintro e w5 ⟨rfl, e5⟩; obtain rfl := e5.symm) | (go_at_call 16; refine (rest_any w1.heap.size r1 n n true _ D4.out).mono ?_; rintro e w5 ⟨rfl, e5⟩; obtain rfl := e5.symm) | (go_at_call 15; refine (same_any _ r1 r1 n n n _ hn s4.out).mono ?_; rintro e w5 ⟨rfl, m, e5⟩; subst e5))
  · go_ret
    exact ⟨rfl, below_drewN B4.out _⟩
  · refine (new_any r1 n n false (w4.drewN m)).mono ?_
    rintro e w6 ⟨rfl, d6, b6⟩
    have b6' : Below w4.heap.size w4 w6 := (below_drewN (Below.refl _ _) m).trans b6
    have D6 : Hid (Rdr w6 w4.heap.size r1 n n false) := d6
    have E6 : Hid (Rdr w6 w1.heap.size r1 n n true) := D4.out.below b6' z4
    have S6 : Hid (Same w1.heap.size w6 r1 r1 n) := s4.out.below b6' (Nat.le_of_lt z4)
    have B6 : Hid (Below w.heap.size w w6) := B4.out.trans (b6'.mono (by omega))
    clear d6 b6 b6' s4
    go_wp2_with fail
    refine (zztake_no w4.heap.size r1 n n false _ w6 D6.out hn (Or.inr (wrap_neg k n hn hk1 hk0 (by assumption)))).mono ?_
    rintro e w7 ⟨rfl, d7, b7⟩
    have D7 : Hid (Rdr w7 w4.heap.size r1 n n true) := d7
    have E7 : Hid (Rdr w7 w1.heap.size r1 n n true) := E6.out.below b7 z4
    have S7 : Hid (Same w1.heap.size w7 r1 r1 n) := S6.out.below b7 (Nat.le_of_lt z4)
    have B7 : Hid (Below w.heap.size w w7) := B6.out.trans (b7.mono (by omega))
    clear d7 b7 D6 E6 D4 B4 B6 S6
    go_wp2_with fail
    refine (failed_any w4.heap.size r1 n n true _ D7.out).mono ?_
    rintro e w8 ⟨rfl, e8⟩
    obtain rfl := e8.symm
    go_wp2_with fail
    refine (failed_any w1.heap.size r1 n n true _ E7.out).mono ?_
    rintro e w9 ⟨rfl, e9⟩
    obtain rfl := e9.symm
    go_wp2_with fail
    refine (rest_any w4.heap.size r1 n n true _ D7.out).mono ?_
    rintro e w10 ⟨rfl, e10⟩
    obtain rfl := e10.symm
    go_wp2_with fail
    refine (rest_any w1.heap.size r1 n n true _ E7.out).mono ?_
    rintro e w11 ⟨rfl, e11⟩
    obtain rfl := e11.symm
    go_wp2_with fail
    refine (same_any _ r1 r1 n n n _ hn S7.out).mono ?_
    rintro e w12 ⟨rfl, m2, e12⟩
    subst e12
    go_wp2
    go_ret
    exact ⟨rfl, below_drewN B7.out _⟩

end Go.Proofs.Qxb6617154aMods.Bytes
