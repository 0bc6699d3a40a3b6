/-
  Contracts of sameBytes, sameConcat (functions 15, 17 of the dump): two slices over the same bytes.
-/
import Derived.Test.Qxb6617154aModsRows
import Derived.WalkKit
import Derived.ProofKit
import Derived.WalkSpells
import Derived.WalkLawsBesides
import Derived.Outline
import Derived.Deep.QuietTactic
import Derived.Deep.OwnRows
import Derived.BigQuiet
namespace Go.Proofs.Qxb6617154aMods.Bytes
open Go.ChangeShapes Go.WideShapes Go.ChangeAt Go.RowKit

/-- the first n bytes at r and at r' are the same cells, and can be read; they lie below block B -/
def Same (B : Nat) (w : World) (r r' : Option Addr) (n : Nat) : Prop :=
  ∀ i, i < n → ∃ g off z, r = some ⟨g, off, none⟩ ∧ r' = some ⟨g, off, none⟩ ∧ g < B ∧ w.cell? ⟨g, off + i, none⟩ = some (.int .u8 z)

theorem Same.open {B : Nat} {w : World} {r r' : Option Addr} {n : Nat} (h : Same B w r r' n) (hn : 0 < n) :
    ∃ (g off : Nat) (z : Nat → Int), r = some ⟨g, off, none⟩ ∧ r' = some ⟨g, off, none⟩ ∧ g < B ∧ ∀ i, i < n → w.cell? ⟨g, off + i, none⟩ = some (.int .u8 (z i)) := by
  obtain ⟨g, off, _, h1, h2, h3, _⟩ := h 0 hn
  have h4 : ∀ i, ∃ z, i < n → w.cell? ⟨g, off + i, none⟩ = some (.int .u8 z) := by
    intro i
    by_cases hi : i < n
    · obtain ⟨g', off', z, e1, e2, _, hc⟩ := h i hi
      rw [h1] at e1
      simp only [Option.some.injEq, Addr.mk.injEq] at e1
      obtain ⟨rfl, rfl, _⟩ := e1
      exact ⟨z, fun _ => hc⟩
    · exact ⟨0, fun h => absurd h hi⟩
  exact ⟨g, off, fun i => Classical.choose (h4 i), h1, h2, h3, fun i hi => Classical.choose_spec (h4 i) hi⟩

set_option maxHeartbeats 400000 in
theorem same_any (B : Nat) (r r' : Option Addr) (n c c' : Nat) (w : World) (hn : n ≤ 1048576) (h : Same B w r r' n) :
    Calls Trym.prog 15 #[.slice r n c, .slice r' n c'] w fun e w' => e = .returned (.bool true) ∧ ∃ m, w' = w.drewN m := by
  by_cases h0 : 0 < n
  · obtain ⟨g, off, z, rfl, rfl, hg, hc⟩ := h.open h0
    clear h
    have HC : Hid (∀ i, i < n → w.cell? ⟨g, off + i, none⟩ = some (.int .u8 (z i))) := hc
    clear hc
    go_enter Trym.func15, Trym.ntmps15
    go_wp2
    go_loopw [5] (fun i wr => ∃ (k m : Nat), k ≤ n ∧ i = .int .i64 k ∧ wr = w.drewN m) (fun i _ => n - (intOf i).toNat)
    case atStart => exact ⟨0, 0, Nat.zero_le _, rfl, rfl⟩
    case round =>
      obtain ⟨k, m, hk, rfl, rfl⟩ := hrel
      by_cases hlt : k < n
      · have hck := HC.out k hlt
        have hlt' : (k : Int) < (n : Int) := by omega
        go_wp2
        go_quiet (fail)
        go_wp2
        go_roundw
        case rel => exact ⟨k + 1, _, by omega, by go_num, rfl⟩
        case measure => simp [intOf]; omega
      · go_wp2
        go_ret
        exact ⟨rfl, m, rfl⟩
  · obtain rfl : n = 0 := by omega
    go_enter Trym.func15, Trym.ntmps15
    go_wp2
    go_loop [5] (fun i => i = .int .i64 0) (fun _ => 0)
    case atStart => rfl
    case round =>
      subst hrel
      go_wp2
      go_ret
      exact ⟨rfl, 0, rfl⟩

/-- z's first a bytes are x's; behind them lie y's -/
theorem concat_any (B : Nat) (r r' r2 : Option Addr) (a b c c' c2 : Nat) (w : World) (hn : a + b ≤ 1048576) (h : Same B w r r' a)
    (h2 : ∀ j, j < b → ∃ g off z, r = some ⟨g, off, none⟩ ∧ r2 = some ⟨g, off + a, none⟩ ∧ w.cell? ⟨g, off + a + j, none⟩ = some (.int .u8 z)) :
    Calls Trym.prog 17 #[.slice r (a + b) c, .slice r' a c', .slice r2 b c2] w fun e w' => e = .returned (.bool true) ∧ ∃ m, w' = w.drewN m := by
  have H1 : Hid (Same B w r r' a) := h
  have H2 : Hid (∀ j, j < b → ∃ g off z, r = some ⟨g, off, none⟩ ∧ r2 = some ⟨g, off + a, none⟩ ∧ w.cell? ⟨g, off + a + j, none⟩ = some (.int .u8 z)) := h2
  clear h h2
  have hne : ((a : Int) + (b : Int) != (a : Int) + (b : Int)) = false := by simp
  go_enter Trym.func17, Trym.ntmps17
  go_wp2
  go_loopw [7] (fun i wr => ∃ (k m : Nat), k ≤ a ∧ i = .int .i64 k ∧ wr = w.drewN m) (fun i _ => a - (intOf i).toNat)
  case atStart => exact ⟨0, 0, Nat.zero_le _, rfl, rfl⟩
  case round =>
    obtain ⟨k, m, hk, rfl, rfl⟩ := hrel
    by_cases hlt : k < a
    · obtain ⟨g, off, z, rfl, rfl, _, hck⟩ := H1.out k hlt
      clear H1 H2
      have hlt' : (k : Int) < (a : Int) := by omega
      have hlt2 : (k : Int) < (a : Int) + (b : Int) := by omega
      go_wp2
      go_quiet (fail)
      go_wp2
      go_roundw
      case rel => exact ⟨k + 1, _, by omega, by go_num, rfl⟩
      case measure => simp [intOf]; omega
    · go_wp2
      go_loopw [8] (fun i wr => ∃ (k m : Nat), k ≤ b ∧ i = .int .i64 k ∧ wr = w.drewN m) (fun i _ => b - (intOf i).toNat)
      case atStart => exact ⟨0, m, Nat.zero_le _, rfl, rfl⟩
      case round =>
        obtain ⟨k, m, hk, rfl, rfl⟩ := hrel
        by_cases hlt : k < b
        · obtain ⟨g, off, z, rfl, rfl, hck⟩ := H2.out k hlt
          clear H1 H2
          have hlt' : (k : Int) < (b : Int) := by omega
          have hlt2 : (a : Int) + (k : Int) < (a : Int) + (b : Int) := by omega
          have hck2 : w.cell? ⟨g, off + (a + k), none⟩ = some (.int .u8 z) := by rw [← Nat.add_assoc]; exact hck
          go_wp2
          go_quiet (fail)
          go_wp2
          go_roundw
          case rel => exact ⟨k + 1, _, by omega, by go_num, rfl⟩
          case measure => simp [intOf]; omega
        · go_wp2
          go_ret
          exact ⟨rfl, m, rfl⟩

end Go.Proofs.Qxb6617154aMods.Bytes
