/-
  The walk of FnAsksOfIsLastCount (function 3 of the dump), all ways together.
-/
import Derived.Test.Qxb6617894aModsLastWalk
namespace Go.Proofs.Qxb6617894aMods.Asks
open Go.ChangeShapes Go.WideShapes Go.ChangeAt Go.RowKit

set_option maxRecDepth 100000 in
theorem last_all (a : Option Addr) (len cap : Nat) (l : List (Int × Int)) (w : World) (h : IsPairs w a len cap l) :
    Calls Trym.prog 3 #[.slice a len cap] w fun e w' => e = .returned (.bool true) ∧ Below w.heap.size w w' := by
  by_cases h1 : len ≤ 1048576
  case neg =>
    have h1' : 1048576 < len := by omega
    clear h h1
    go_enter Trym.func3, Trym.ntmps3
    go_wp2_with (go_at_call 5; refine (zzb3_no a len cap _ h1').mono ?_; rintro e w' ⟨rfl, rfl⟩)
    go_ret
    exact ⟨rfl, Below.refl _ _⟩
  by_cases h2 : len ≤ 65536
  case neg =>
    have h2' : 65536 < len := by omega
    clear h h2
    go_enter Trym.func3, Trym.ntmps3
    go_wp2_with (go_at_call 5; refine (zzb3_yes a len cap _ h1).mono ?_; rintro e w' ⟨rfl, rfl⟩)
    go_ret
    exact ⟨rfl, Below.refl _ _⟩
  rcases h with ⟨rfl, rfl, rfl⟩ | ⟨x, rfl, hl, hp⟩
  · exact last_nil w
  · exact last_some x len cap l w hl h2 hp

end Go.Proofs.Qxb6617894aMods.Asks
