/-
  Contracts of the reader's functions: take, took, ZZTake, ZZTook, ZZFailed, ZZRest, ZZNewEntryReader (functions 22, 23, 13, 19, 14, 16, 12 of the dump).
-/
import Derived.Test.Qxb6617154aModsClone
namespace Go.Proofs.Qxb6617154aMods.Bytes
open Go.ChangeShapes Go.WideShapes Go.ChangeAt Go.RowKit

/-- the array's place behind 'x[l:]' -/
def cut (r : Option Addr) (l m : Nat) : Option Addr := if m = l then r else r.map (·.add l)

/-- a reader at p: what is left, whether it has failed -/
def Rdr (w : World) (p : Nat) (r : Option Addr) (n c : Nat) (f : Bool) : Prop :=
  w.cell? ⟨p, 0, none⟩ = some (.slice r n c) ∧ w.cell? ⟨p, 1, none⟩ = some (.bool f) ∧ w.frozen? ⟨p, 0, none⟩ = false ∧ w.frozen? ⟨p, 1, none⟩ = false

theorem failed_any (p : Nat) (r : Option Addr) (n c : Nat) (f : Bool) (w : World) (h : Rdr w p r n c f) :
    Calls Trym.prog 14 #[.pointer (some ⟨p, 0, none⟩)] w fun e w' => e = .returned (.bool f) ∧ w' = w := by
  obtain ⟨h1, h2, h3, h4⟩ := h
  go_enter Trym.func14, Trym.ntmps14
  go_wp2
  go_ret
  exact ⟨rfl, rfl⟩

theorem rest_any (p : Nat) (r : Option Addr) (n c : Nat) (f : Bool) (w : World) (h : Rdr w p r n c f) :
    Calls Trym.prog 16 #[.pointer (some ⟨p, 0, none⟩)] w fun e w' => e = .returned (.slice r n c) ∧ w' = w := by
  obtain ⟨h1, h2, h3, h4⟩ := h
  go_enter Trym.func16, Trym.ntmps16
  go_wp2
  go_ret
  exact ⟨rfl, rfl⟩

/-- the reader has failed, or too much is asked -/
theorem take_no (p : Nat) (r : Option Addr) (n c : Nat) (f : Bool) (k : Int) (w : World) (h : Rdr w p r n c f) (hn : n ≤ 1048576) (hf : f = true ∨ (n : Int) < k) :
    Calls Trym.prog 22 #[.pointer (some ⟨p, 0, none⟩), .int .u64 k] w fun e w' => e = .returned (.slice none 0 0) ∧ w' = w.setCell ⟨p, 1, none⟩ (.bool true) := by
  obtain ⟨h1, h2, h3, h4⟩ := h
  cases f with
  | true =>
    clear hf
    go_enter Trym.func22, Trym.ntmps22
    go_wp2
    go_ret
    exact ⟨rfl, rfl⟩
  | false =>
    have hlt : (n : Int) < k := by simpa using hf
    clear hf
    go_enter Trym.func22, Trym.ntmps22
    go_wp2
    go_ret
    exact ⟨rfl, rfl⟩

theorem take_yes (p : Nat) (r : Option Addr) (n c : Nat) (k : Nat) (w : World) (h : Rdr w p r n c false) (hn : n ≤ 1048576) (hc : n ≤ c) (hk : k ≤ n) :
    Calls Trym.prog 22 #[.pointer (some ⟨p, 0, none⟩), .int .u64 k] w fun e w' => e = .returned (.slice r k c) ∧ w' = w.setCell ⟨p, 0, none⟩ (.slice (cut r k c) (n - k) (c - k)) := by
  obtain ⟨h1, h2, h3, h4⟩ := h
  by_cases hck : c = k
  · subst hck
    go_enter Trym.func22, Trym.ntmps22
    go_wp2
    go_ret
    exact ⟨rfl, by rw [show n - c = 0 from by omega]; simp [cut]⟩
  · have hk' : (k : Int) ≤ (n : Int) := by omega
    have hkc : (k : Int) ≤ (c : Int) := by omega
    go_enter Trym.func22, Trym.ntmps22
    go_wp2
    go_ret
    exact ⟨rfl, by simp [cut, hck]⟩

theorem took_no (p : Nat) (r : Option Addr) (n c : Nat) (f : Bool) (k v : Int) (w : World) (h : Rdr w p r n c f) (hf : f = true ∨ k ≤ 0) :
    Calls Trym.prog 23 #[.pointer (some ⟨p, 0, none⟩), .int .i64 k, .int .u64 v] w fun e w' => e = .returned (.int .u64 0) ∧ w' = w.setCell ⟨p, 1, none⟩ (.bool true) := by
  obtain ⟨h1, h2, h3, h4⟩ := h
  cases f with
  | true =>
    clear hf
    go_enter Trym.func23, Trym.ntmps23
    go_wp2
    go_ret
    exact ⟨rfl, rfl⟩
  | false =>
    have hlt : k ≤ 0 := by simpa using hf
    clear hf
    go_enter Trym.func23, Trym.ntmps23
    go_wp2
    go_ret
    exact ⟨rfl, rfl⟩

theorem took_yes (p : Nat) (r : Option Addr) (n c : Nat) (k : Nat) (v : Int) (w : World) (h : Rdr w p r n c false) (hn : n ≤ 1048576) (hc : n ≤ c) (hk0 : 0 < k) (hk : k ≤ n) :
    Calls Trym.prog 23 #[.pointer (some ⟨p, 0, none⟩), .int .i64 k, .int .u64 v] w fun e w' => e = .returned (.int .u64 v) ∧ w' = w.setCell ⟨p, 0, none⟩ (.slice (cut r k c) (n - k) (c - k)) := by
  obtain ⟨h1, h2, h3, h4⟩ := h
  by_cases hck : c = k
  · subst hck
    go_enter Trym.func23, Trym.ntmps23
    go_wp2
    go_ret
    exact ⟨rfl, by rw [show n - c = 0 from by omega]; simp [cut]⟩
  · have hk' : (k : Int) ≤ (n : Int) := by omega
    have hkc : (k : Int) ≤ (c : Int) := by omega
    go_enter Trym.func23, Trym.ntmps23
    go_wp2
    go_ret
    exact ⟨rfl, by simp [cut, hck]⟩

/-! ### the same, the world told by what it is good for -/

theorem addr_ne {p : Nat} : (⟨p, 1, none⟩ : Addr) ≠ ⟨p, 0, none⟩ := by
  intro h
  injection h with _ h
  exact absurd h (by decide)

theorem Rdr.set0 {w : World} {p : Nat} {r : Option Addr} {n c : Nat} {f : Bool} (h : Rdr w p r n c f) (r' : Option Addr) (n' c' : Nat) : Rdr (w.setCell ⟨p, 0, none⟩ (.slice r' n' c')) p r' n' c' f :=
  ⟨World.cell?_setCell_same _ _ _ h.1, (World.cell?_setCell_other _ _ _ _ addr_ne.symm).trans h.2.1, (World.frozen?_setCell _ _ _ _).trans h.2.2.1, (World.frozen?_setCell _ _ _ _).trans h.2.2.2⟩

theorem Rdr.set1 {w : World} {p : Nat} {r : Option Addr} {n c : Nat} {f : Bool} (h : Rdr w p r n c f) (f' : Bool) : Rdr (w.setCell ⟨p, 1, none⟩ (.bool f')) p r n c f' :=
  ⟨(World.cell?_setCell_other _ _ _ _ addr_ne).trans h.1, World.cell?_setCell_same _ _ _ h.2.1, (World.frozen?_setCell _ _ _ _).trans h.2.2.1, (World.frozen?_setCell _ _ _ _).trans h.2.2.2⟩

theorem Rdr.below {w w' : World} {p : Nat} {r : Option Addr} {n c : Nat} {f : Bool} (h : Rdr w p r n c f) {B : Nat} (hb : Below B w w') (hp : p < B) : Rdr w' p r n c f :=
  ⟨(hb.cell (by exact hp)).trans h.1, (hb.cell (by exact hp)).trans h.2.1, (hb.frozen (by exact hp)).trans h.2.2.1, (hb.frozen (by exact hp)).trans h.2.2.2⟩

theorem Rdr.lt {w : World} {p : Nat} {r : Option Addr} {n c : Nat} {f : Bool} (h : Rdr w p r n c f) : p < w.heap.size := World.block_lt_of_cell? w _ h.1

theorem Same.below {w w' : World} {r r' : Option Addr} {n B B' : Nat} (h : Same B w r r' n) (hb : Below B' w w') (hB : B ≤ B') : Same B w' r r' n := by
  intro i hi
  obtain ⟨g, off, z, h1, h2, h3, h4⟩ := h i hi
  exact ⟨g, off, z, h1, h2, h3, (hb.cell (by exact Nat.lt_of_lt_of_le h3 hB)).trans h4⟩

theorem new_any (r : Option Addr) (n c : Nat) (f : Bool) (w : World) :
    Calls Trym.prog 12 #[.slice r n c, .bool f] w fun e w' => e = .returned (.pointer (some ⟨w.heap.size, 0, none⟩)) ∧ Rdr w' w.heap.size r n c f ∧ Below w.heap.size w w' := by
  go_enter Trym.func12, Trym.ntmps12
  go_wp2
  go_ret
  refine ⟨rfl, ⟨?_, ?_, ?_, ?_⟩, (Below.refl _ _).alloc (Nat.le_refl _) _⟩
  · exact World.cell?_alloc_at _ _ _ _ rfl
  · exact World.cell?_alloc_at _ _ _ _ rfl
  · exact World.frozen?_alloc_at _ _ _ _ rfl
  · exact World.frozen?_alloc_at _ _ _ _ rfl

theorem zztake_no (p : Nat) (r : Option Addr) (n c : Nat) (f : Bool) (k : Int) (w : World) (h : Rdr w p r n c f) (hn : n ≤ 1048576) (hf : f = true ∨ (n : Int) < k) :
    Calls Trym.prog 13 #[.pointer (some ⟨p, 0, none⟩), .int .u64 k] w fun e w' => e = .returned (.slice none 0 0) ∧ Rdr w' p r n c true ∧ Below p w w' := by
  have H : Hid (f = true ∨ (n : Int) < k) := hf
  clear hf
  have HR : Hid (Rdr w p r n c f) := h
  clear h
  go_enter Trym.func13, Trym.ntmps13
  go_wp2_with (go_at_call 22; refine (take_no p r n c f k _ HR.out hn H.out).mono ?_; rintro e w' ⟨rfl, rfl⟩)
  go_ret
  exact ⟨rfl, HR.out.set1 _, (Below.refl _ _).setCell (by exact Nat.le_refl p) _⟩

theorem zztake_yes (p : Nat) (r : Option Addr) (n c : Nat) (k : Nat) (w : World) (h : Rdr w p r n c false) (hn : n ≤ 1048576) (hc : n ≤ c) (hk : k ≤ n) :
    Calls Trym.prog 13 #[.pointer (some ⟨p, 0, none⟩), .int .u64 k] w fun e w' => e = .returned (.slice r k c) ∧ Rdr w' p (cut r k c) (n - k) (c - k) false ∧ Below p w w' := by
  have HR : Hid (Rdr w p r n c false) := h
  clear h
  go_enter Trym.func13, Trym.ntmps13
  go_wp2_with (go_at_call 22; refine (take_yes p r n c k _ HR.out hn hc hk).mono ?_; rintro e w' ⟨rfl, rfl⟩)
  go_ret
  exact ⟨rfl, HR.out.set0 _ _ _, (Below.refl _ _).setCell (by exact Nat.le_refl p) _⟩

theorem zztook_no (p : Nat) (r : Option Addr) (n c : Nat) (f : Bool) (k v : Int) (w : World) (h : Rdr w p r n c f) (hf : f = true ∨ k ≤ 0) :
    Calls Trym.prog 19 #[.pointer (some ⟨p, 0, none⟩), .int .i64 k, .int .u64 v] w fun e w' => e = .returned (.int .u64 0) ∧ Rdr w' p r n c true ∧ Below p w w' := by
  have H : Hid (f = true ∨ k ≤ 0) := hf
  clear hf
  have HR : Hid (Rdr w p r n c f) := h
  clear h
  go_enter Trym.func19, Trym.ntmps19
  go_wp2_with (go_at_call 23; refine (took_no p r n c f k v _ HR.out H.out).mono ?_; rintro e w' ⟨rfl, rfl⟩)
  go_ret
  exact ⟨rfl, HR.out.set1 _, (Below.refl _ _).setCell (by exact Nat.le_refl p) _⟩

theorem zztook_yes (p : Nat) (r : Option Addr) (n c : Nat) (k : Nat) (v : Int) (w : World) (h : Rdr w p r n c false) (hn : n ≤ 1048576) (hc : n ≤ c) (hk0 : 0 < k) (hk : k ≤ n) :
    Calls Trym.prog 19 #[.pointer (some ⟨p, 0, none⟩), .int .i64 k, .int .u64 v] w fun e w' => e = .returned (.int .u64 v) ∧ Rdr w' p (cut r k c) (n - k) (c - k) false ∧ Below p w w' := by
  have HR : Hid (Rdr w p r n c false) := h
  clear h
  go_enter Trym.func19, Trym.ntmps19
  go_wp2_with (go_at_call 23; refine (took_yes p r n c k v _ HR.out hn hc hk0 hk).mono ?_; rintro e w' ⟨rfl, rfl⟩)
  go_ret
  exact ⟨rfl, HR.out.set0 _ _ _, (Below.refl _ _).setCell (by exact Nat.le_refl p) _⟩

end Go.Proofs.Qxb6617154aMods.Bytes
