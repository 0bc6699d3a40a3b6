/-
  The walk of FnTakeTwiceIsTakeOfTheSum (function 4 of the dump).
-/
import Derived.Test.Qxb6617154aModsReader
namespace Go.Proofs.Qxb6617154aMods.Bytes
open Go.ChangeShapes Go.WideShapes Go.ChangeAt Go.RowKit

theorem zzb_yes (r : Option Addr) (n c : Nat) (f : Bool) (a b : Int) (w : World) (h : n ≤ 1048576) :
    Calls Trym.prog 10 #[.slice r n c, .bool f, .int .u64 a, .int .u64 b] w fun e w' => e = .returned (.bool true) ∧ w = w' := by
  go_enter Trym.func10, Trym.ntmps10
  go_wp2
  go_ret
  exact ⟨rfl, rfl⟩

theorem zzb_no (r : Option Addr) (n c : Nat) (f : Bool) (a b : Int) (w : World) (h : 1048576 < n) :
    Calls Trym.prog 10 #[.slice r n c, .bool f, .int .u64 a, .int .u64 b] w fun e w' => e = .returned (.bool false) ∧ w = w' := by
  go_enter Trym.func10, Trym.ntmps10
  go_wp2
  go_ret
  exact ⟨rfl, rfl⟩

theorem same_eq (B : Nat) (r r' : Option Addr) (n n' c c' : Nat) (w : World) (hn : n ≤ 1048576) (he : n = n') (h : Same B w r r' n) :
    Calls Trym.prog 15 #[.slice r n c, .slice r' n' c'] w fun e w' => e = .returned (.bool true) ∧ ∃ m, w' = w.drewN m := by
  subst he
  exact same_any B r r' n c c' w hn h

set_option maxRecDepth 100000 in
set_option maxHeartbeats 1000000 in
theorem law_b (r : Option Addr) (n c : Nat) (a b : Nat) (w : World) (hn : n ≤ 1048576) (hnil : r = none → n = 0) (h : Same w.heap.size w r r n)
    (ha : a ≤ 18446744073709551615) (hb : b ≤ 18446744073709551615) :
    Calls Trym.prog 4 #[.slice r n c, .bool true, .int .u64 a, .int .u64 b] w fun e w' => e = .returned (.bool true) ∧ Below w.heap.size w w' := by
  have HN : Hid (r = none → n = 0) := hnil
  have HS : Hid (Same w.heap.size w r r n) := h
  clear hnil h
  have heq := fun (W : World) => Lib.run_eql_slice_nil (P := Trym.prog) W 26 5 none 0 0 0 0 Trym.underlying26
  go_enter Trym.func4, Trym.ntmps4
  go_wp2_with (go_at_call 10; refine (zzb_yes r n c true a b _ hn).mono ?_; rintro e w' ⟨rfl, rfl⟩)
  refine (clone_any r n c _ hn HN.out HS.out).mono ?_
  rintro e w1 ⟨r1, rfl, s1, b1⟩
  have S1 : Hid (Same w1.heap.size w1 r1 r1 n) := s1
  clear s1
  go_wp2_with fail
  refine (new_any r1 n n true w1).mono ?_
  rintro e w2 ⟨rfl, d2, b2⟩
  have D2 : Hid (Rdr w2 w1.heap.size r1 n n true) := d2
  clear d2
  go_wp2_with fail
  refine (zztake_no w1.heap.size r1 n n true a w2 D2.out hn (Or.inl rfl)).mono ?_
  rintro e w3 ⟨rfl, d3, b3⟩
  have D3 : Hid (Rdr w3 w1.heap.size r1 n n true) := d3
  clear d3
  go_wp2_with fail
  refine (zztake_no w1.heap.size r1 n n true b w3 D3.out hn (Or.inl rfl)).mono ?_
  rintro e w4 ⟨rfl, d4, b4⟩
  have D4 : Hid (Rdr w4 w1.heap.size r1 n n true) := d4
  clear d4
  have s4 : Hid (Same w1.heap.size w4 r1 r1 n) := ((S1.out.below b2 (Nat.le_refl _)).below b3 (Nat.le_refl _)).below b4 (Nat.le_refl _)
  have B4 : Hid (Below w.heap.size w w4) := b1.trans (((b2.trans b3).trans b4).mono b1.size)
  have z1 : w.heap.size ≤ w1.heap.size := b1.size
  have z4 : w1.heap.size < w4.heap.size := D4.out.lt
  clear b1 b2 b3 b4 S1 D2 D3
  go_wp2_with (first | (go_at_call 14; refine (failed_any w1.heap.size r1 n n true _ D4.out).mono ?_; rintro e w5 ⟨rfl, e5⟩; obtain rfl := e5.symm) | (go_at_call 16; refine (rest_any w1.heap.size r1 n n true _ D4.out).mono ?_; rintro e w5 ⟨rfl, e5⟩; obtain rfl := e5.symm) | (go_at_call 15; refine (same_any _ r1 r1 n n n _ hn s4.out).mono ?_; rintro e w5 ⟨rfl, m, e5⟩; subst e5))
  · go_ret
    exact ⟨rfl, below_drewN B4.out _⟩
  · refine (new_any r1 n n true (w4.drewN m)).mono ?_
    rintro e w6 ⟨rfl, d6, b6⟩
    have b6' : Below w4.heap.size w4 w6 := (below_drewN (Below.refl _ _) m).trans b6
    have D6 : Hid (Rdr w6 w4.heap.size r1 n n true) := d6
    have E6 : Hid (Rdr w6 w1.heap.size r1 n n true) := D4.out.below b6' z4
    have B6 : Hid (Below w.heap.size w w6) := B4.out.trans (b6'.mono (by omega))
    clear d6 b6 b6' s4
    go_wp2_with fail
    refine (zztake_no w4.heap.size r1 n n true ((a : Int) + (b : Int)) w6 D6.out hn (Or.inl rfl)).mono ?_
    rintro e w7 ⟨rfl, d7, b7⟩
    have D7 : Hid (Rdr w7 w4.heap.size r1 n n true) := d7
    have E7 : Hid (Rdr w7 w1.heap.size r1 n n true) := E6.out.below b7 z4
    have B7 : Hid (Below w.heap.size w w7) := B6.out.trans (b7.mono (by omega))
    clear d7 b7 D6 E6 D4 B4 B6
    go_wp2_with fail
    refine (failed_any w4.heap.size r1 n n true _ D7.out).mono ?_
    rintro e w8 ⟨rfl, e8⟩
    obtain rfl := e8.symm
    go_wp2_with fail
    refine (failed_any w1.heap.size r1 n n true _ E7.out).mono ?_
    rintro e w9 ⟨rfl, e9⟩
    obtain rfl := e9.symm
    go_wp2_with fail
    refine (failed_any w4.heap.size r1 n n true _ D7.out).mono ?_
    rintro e w10 ⟨rfl, e10⟩
    obtain rfl := e10.symm
    go_wp2
    go_ret
    exact ⟨rfl, B7.out⟩

set_option maxRecDepth 100000 in
set_option maxHeartbeats 1000000 in
theorem law_c (r : Option Addr) (n c : Nat) (a b : Nat) (w : World) (hn : n ≤ 1048576) (hnil : r = none → n = 0) (h : Same w.heap.size w r r n)
    (ha : a ≤ 18446744073709551615) (hb : b ≤ 18446744073709551615) (hlt : (n : Int) < (a : Int)) :
    Calls Trym.prog 4 #[.slice r n c, .bool false, .int .u64 a, .int .u64 b] w fun e w' => e = .returned (.bool true) ∧ Below w.heap.size w w' := by
  have HN : Hid (r = none → n = 0) := hnil
  have HS : Hid (Same w.heap.size w r r n) := h
  clear hnil h
  have heq := fun (W : World) => Lib.run_eql_slice_nil (P := Trym.prog) W 26 5 none 0 0 0 0 Trym.underlying26
  go_enter Trym.func4, Trym.ntmps4
  go_wp2_with (go_at_call 10; refine (zzb_yes r n c false a b _ hn).mono ?_; rintro e w' ⟨rfl, rfl⟩)
  refine (clone_any r n c _ hn HN.out HS.out).mono ?_
  rintro e w1 ⟨r1, rfl, s1, b1⟩
  have S1 : Hid (Same w1.heap.size w1 r1 r1 n) := s1
  clear s1
  go_wp2_with fail
  refine (new_any r1 n n false w1).mono ?_
  rintro e w2 ⟨rfl, d2, b2⟩
  have D2 : Hid (Rdr w2 w1.heap.size r1 n n false) := d2
  clear d2
  go_wp2_with fail
  refine (zztake_no w1.heap.size r1 n n false a w2 D2.out hn (Or.inr hlt)).mono ?_
  rintro e w3 ⟨rfl, d3, b3⟩
  have D3 : Hid (Rdr w3 w1.heap.size r1 n n true) := d3
  clear d3
  go_wp2_with fail
  refine (zztake_no w1.heap.size r1 n n true b w3 D3.out hn (Or.inl rfl)).mono ?_
  rintro e w4 ⟨rfl, d4, b4⟩
  have D4 : Hid (Rdr w4 w1.heap.size r1 n n true) := d4
  clear d4
  have s4 : Hid (Same w1.heap.size w4 r1 r1 n) := ((S1.out.below b2 (Nat.le_refl _)).below b3 (Nat.le_refl _)).below b4 (Nat.le_refl _)
  have B4 : Hid (Below w.heap.size w w4) := b1.trans (((b2.trans b3).trans b4).mono b1.size)
  have z1 : w.heap.size ≤ w1.heap.size := b1.size
  have z4 : w1.heap.size < w4.heap.size := D4.out.lt
  clear b1 b2 b3 b4 S1 D2 D3
  go_wp2_with (first | (go_at_call 14; refine (failed_any w1.heap.size r1 n n true _ D4.out).mono ?_; rintro e w5 ⟨rfl, e5⟩; obtain rfl := e5.symm) | (go_at_call 16; refine (rest_any w1.heap.size r1 n n true _ D4.out).mono ?_; rintro e w5 ⟨rfl, e5⟩; obtain rfl := e5.symm) | (go_at_call 15; refine (same_any _ r1 r1 n n n _ hn s4.out).mono ?_; rintro e w5 ⟨rfl, m, e5⟩; subst e5))
  · go_ret
    exact ⟨rfl, below_drewN B4.out _⟩
  · refine (new_any r1 n n false (w4.drewN m)).mono ?_
    rintro e w6 ⟨rfl, d6, b6⟩
    have b6' : Below w4.heap.size w4 w6 := (below_drewN (Below.refl _ _) m).trans b6
    have D6 : Hid (Rdr w6 w4.heap.size r1 n n false) := d6
    have E6 : Hid (Rdr w6 w1.heap.size r1 n n true) := D4.out.below b6' z4
    have B6 : Hid (Below w.heap.size w w6) := B4.out.trans (b6'.mono (by omega))
    clear d6 b6 b6' s4
    go_wp2_with fail
    refine (zztake_no w4.heap.size r1 n n false ((a : Int) + (b : Int)) w6 D6.out hn (Or.inr (by omega))).mono ?_
    rintro e w7 ⟨rfl, d7, b7⟩
    have D7 : Hid (Rdr w7 w4.heap.size r1 n n true) := d7
    have E7 : Hid (Rdr w7 w1.heap.size r1 n n true) := E6.out.below b7 z4
    have B7 : Hid (Below w.heap.size w w7) := B6.out.trans (b7.mono (by omega))
    clear d7 b7 D6 E6 D4 B4 B6
    go_wp2_with fail
    refine (failed_any w4.heap.size r1 n n true _ D7.out).mono ?_
    rintro e w8 ⟨rfl, e8⟩
    obtain rfl := e8.symm
    go_wp2_with fail
    refine (failed_any w1.heap.size r1 n n true _ E7.out).mono ?_
    rintro e w9 ⟨rfl, e9⟩
    obtain rfl := e9.symm
    go_wp2_with fail
    refine (failed_any w4.heap.size r1 n n true _ D7.out).mono ?_
    rintro e w10 ⟨rfl, e10⟩
    obtain rfl := e10.symm
    go_wp2
    go_ret
    exact ⟨rfl, B7.out⟩

/-! ### which bytes a cut leads to -/

theorem Same.drewN {B : Nat} {w : World} {r r' : Option Addr} {n : Nat} (h : Same B w r r' n) (m : Nat) : Same B (w.drewN m) r r' n := h

theorem Rdr.drewN {w : World} {p : Nat} {r : Option Addr} {n c : Nat} {f : Bool} (h : Rdr w p r n c f) (m : Nat) : Rdr (w.drewN m) p r n c f := h

theorem Same.zero (B : Nat) (w : World) (r r' : Option Addr) (n : Nat) (h : n = 0) : Same B w r r' n := fun i hi => absurd hi (by omega)

theorem Same.less {B : Nat} {w : World} {r r' : Option Addr} {n : Nat} (h : Same B w r r' n) (k : Nat) (hk : k ≤ n) : Same B w r r' k := fun i hi => h i (by omega)

theorem cut_at (g off k m : Nat) (h : m ≠ k) : cut (some ⟨g, off, none⟩) k m = some ⟨g, off + k, none⟩ := by
  unfold cut
  rw [if_neg h]
  simp only [Option.map_some, Addr.add]
  split
  · rename_i e; subst e; rfl
  · rfl

theorem cut_map (r : Option Addr) (k m : Nat) (h : m ≠ k) : r.map (fun x => x.add k) = cut r k m := by
  unfold cut
  rw [if_neg h]

theorem cut_same (r : Option Addr) (k : Nat) : cut r k k = r := by
  unfold cut
  rw [if_pos rfl]

/-- behind a cut the bytes are those further on -/
theorem Same.past {B : Nat} {w : World} {r : Option Addr} {n : Nat} (h : Same B w r r n) (k m j : Nat) (hj : k + j ≤ n) (hm : j = 0 ∨ m ≠ k) : Same B w (cut r k m) (cut r k m) j := by
  intro i hi
  obtain ⟨g, off, z, rfl, _, hg, hc⟩ := h (k + i) (by omega)
  have e := cut_at g off k m (by omega)
  exact ⟨g, off + k, z, e, e, hg, by rw [Nat.add_assoc]; exact hc⟩

/-- two cuts one behind the other are one -/
theorem Same.past2 {B : Nat} {w : World} {r : Option Addr} {n : Nat} (h : Same B w r r n) (a b : Nat) (hab : a + b ≤ n) : Same B w (cut r (a + b) n) (cut (cut r a n) b (n - a)) (n - (a + b)) := by
  intro i hi
  obtain ⟨g, off, z, rfl, _, hg, hc⟩ := h (a + b + i) (by omega)
  refine ⟨g, off + (a + b), z, cut_at g off (a + b) n (by omega), ?_, hg, by rw [Nat.add_assoc]; exact hc⟩
  rw [cut_at g off a n (by omega), cut_at g (off + a) b (n - a) (by omega), Nat.add_assoc]

theorem Same.symm {B : Nat} {w : World} {r r' : Option Addr} {n : Nat} (h : Same B w r r' n) : Same B w r' r n := by
  intro i hi
  obtain ⟨g, off, z, h1, h2, h3⟩ := h i hi
  exact ⟨g, off, z, h2, h1, h3⟩

/-- what sameConcat asks of the second piece -/
theorem Same.behind {B : Nat} {w : World} {r : Option Addr} {n : Nat} (h : Same B w r r n) (a b : Nat) (hab : a + b ≤ n) :
    ∀ j, j < b → ∃ g off z, r = some ⟨g, off, none⟩ ∧ cut r a n = some ⟨g, off + a, none⟩ ∧ w.cell? ⟨g, off + a + j, none⟩ = some (.int .u8 z) := by
  intro j hj
  obtain ⟨g, off, z, rfl, _, hg, hc⟩ := h (a + j) (by omega)
  exact ⟨g, off, z, rfl, cut_at g off a n (by omega), by rw [Nat.add_assoc]; exact hc⟩

end Go.Proofs.Qxb6617154aMods.Bytes
