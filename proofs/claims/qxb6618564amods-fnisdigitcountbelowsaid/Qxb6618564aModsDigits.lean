/-
  The contracts of isDigit, ZZisDigit, zzClampDigits (functions 14, 11, 12 of the dump); the walks of FnIsDigitOneInEveryTenStepChain and FnIsDigitCountBelow (functions 6, 5).
-/
import Derived.Test.Qxb6618564aModsRows
import Derived.WalkKit
import Derived.ProofKit
import Derived.OpenShut
import Derived.WalkSpells
import Derived.WalkLawsBesides
import Derived.Outline
namespace Go.Proofs.Qxb6618564aMods.Digits
open Go.ChangeShapes Go.WideShapes Go.ChangeAt Go.RowKit

theorem digit_yes (c : Int) (w : World) (h1 : 48 ≤ c) (h2 : c ≤ 57) :
    Calls Trym.prog 11 #[.int .u8 c] w fun e w' => e = .returned (.bool true) ∧ w = w' := by
  go_enter Trym.func11, Trym.ntmps11
  go_wp2
  go_ret
  exact ⟨rfl, rfl⟩

theorem digit_low (c : Int) (w : World) (h1 : c < 48) :
    Calls Trym.prog 11 #[.int .u8 c] w fun e w' => e = .returned (.bool false) ∧ w = w' := by
  go_enter Trym.func11, Trym.ntmps11
  go_wp2
  go_ret
  exact ⟨rfl, rfl⟩

theorem ret_bool {a b : Bool} (h : a = b) : Ending.returned (.bool a) = .returned (.bool b) := by rw [h]

theorem digit_high (c : Int) (w : World) (h1 : 57 < c) :
    Calls Trym.prog 11 #[.int .u8 c] w fun e w' => e = .returned (.bool false) ∧ w = w' := by
  go_enter Trym.func11, Trym.ntmps11
  go_wp2
  go_ret
  exact ⟨ret_bool (decide_eq_false (by omega)), rfl⟩

/-- how many digits stand on the chain above i -/
def cnt (c i : Int) : Int := if 48 ≤ c ∧ i < 48 then 1 else 0

theorem cnt_one (c i : Int) (h1 : 48 ≤ c) (h2 : i < 48) : cnt c i = 1 := if_pos ⟨h1, h2⟩
theorem cnt_zero (c i : Int) (h : c < 48 ∨ 48 ≤ i) : cnt c i = 0 := if_neg (by omega)
theorem cnt_bd (c i : Int) : 0 ≤ cnt c i ∧ cnt c i ≤ 1 := by unfold cnt; split <;> omega

theorem cnt_digit (c i : Int) (h : i ≤ c) (h1 : 48 ≤ i) (h2 : i ≤ 57) : cnt c i + 1 = cnt c (i - 10) := by
  rw [cnt_zero c i (Or.inr h1), cnt_one c (i - 10) (by omega) (by omega)]
  rfl

theorem cnt_low (c i : Int) (h1 : i < 48) : cnt c i = cnt c (i - 10) := by
  by_cases h : 48 ≤ c
  · rw [cnt_one c i h h1, cnt_one c (i - 10) h (by omega)]
  · rw [cnt_zero c i (by omega), cnt_zero c (i - 10) (by omega)]

theorem cnt_high (c i : Int) (h1 : 57 < i) : cnt c i = cnt c (i - 10) := by
  rw [cnt_zero c i (by omega), cnt_zero c (i - 10) (by omega)]

set_option maxHeartbeats 400000 in
theorem chain_any (c : Int) (w : World) (h1 : 0 ≤ c) (h2 : c ≤ 255) :
    Calls Trym.prog 6 #[.int .u8 c] w fun e w' => e = .returned (.bool true) ∧ Grown w w' := by
  go_enter Trym.func6, Trym.ntmps6
  go_wp2
  go_loop [3, 4] (fun nv iv => ∃ i : Int, iv = .int .i64 i ∧ -10 ≤ i ∧ i ≤ c ∧ nv = .int .i64 (cnt c i)) (fun _ iv => (intOf iv + 10).toNat)
  case atStart => exact ⟨c, rfl, by omega, Int.le_refl _, by rw [cnt_zero c c (by omega)]⟩
  case round =>
    obtain ⟨i, rfl, hi1, hi2, rfl⟩ := hrel
    have hbd := cnt_bd c i
    obtain ⟨hb1, hb2⟩ := hbd
    by_cases h0 : 0 ≤ i
    · by_cases hd : 48 ≤ i
      · by_cases hd2 : i ≤ 57
        · go_wp2_with (go_at_call 11; refine (digit_yes _ _ (by omega) (by omega)).mono ?_; rintro e w' ⟨rfl, rfl⟩)
          go_round
          case rel => exact ⟨i - 10, rfl, by omega, by omega, by rw [cnt_digit c i hi2 hd hd2]⟩
          case measure => simp [intOf]; omega
        · go_wp2_with (go_at_call 11; refine (digit_high _ _ (by omega)).mono ?_; rintro e w' ⟨rfl, rfl⟩)
          go_round
          case rel => exact ⟨i - 10, rfl, by omega, by omega, by rw [cnt_high c i (by omega)]⟩
          case measure => simp [intOf]; omega
      · go_wp2_with (go_at_call 11; refine (digit_low _ _ (by omega)).mono ?_; rintro e w' ⟨rfl, rfl⟩)
        go_round
        case rel => exact ⟨i - 10, rfl, by omega, by omega, by rw [cnt_low c i (by omega)]⟩
        case measure => simp [intOf]; omega
    · by_cases hc : 48 ≤ c
      · have he : (cnt c i == 1) = true := by rw [cnt_one c i hc (by omega)]; rfl
        go_wp2
        go_ret
        exact ⟨rfl, Grown.refl _⟩
      · have he : (cnt c i == 0) = true := by rw [cnt_zero c i (by omega)]; rfl
        go_wp2
        go_ret
        exact ⟨rfl, Grown.refl _⟩

/-- between 0 and 10 -/
def cl (v : Int) : Int := if v < 0 then 0 else if 10 < v then 10 else v

theorem cl_bd (v : Int) : 0 ≤ cl v ∧ cl v ≤ 10 := by unfold cl; split <;> (try split) <;> omega

theorem ret_int {k : IntKind} {a b : Int} (h : a = b) : Ending.returned (.int k a) = .returned (.int k b) := by rw [h]

theorem clamp_any (v : Int) (w : World) : Calls Trym.prog 12 #[.int .i64 v] w fun e w' => e = .returned (.int .i64 (cl v)) ∧ w = w' := by
  by_cases h1 : v < 0
  · go_enter Trym.func12, Trym.ntmps12
    go_wp2
    go_ret
    exact ⟨ret_int (if_pos h1).symm, rfl⟩
  · by_cases h2 : 10 < v
    · go_enter Trym.func12, Trym.ntmps12
      go_wp2
      go_ret
      exact ⟨ret_int (by unfold cl; rw [if_neg (by omega), if_pos (by omega)]), rfl⟩
    · go_enter Trym.func12, Trym.ntmps12
      go_wp2
      go_ret
      exact ⟨ret_int (by unfold cl; rw [if_neg (by omega), if_neg (by omega)]), rfl⟩

theorem cl_digit (k : Int) (h1 : 48 ≤ k) (h2 : k ≤ 57) : cl (k - 48) + 1 = cl (k + 1 - 48) := by unfold cl; repeat (first | omega | split)
theorem cl_low (k : Int) (h1 : k < 48) : cl (k - 48) = cl (k + 1 - 48) := by unfold cl; repeat (first | omega | split)
theorem cl_high (k : Int) (h1 : 57 < k) : cl (k - 48) = cl (k + 1 - 48) := by unfold cl; repeat (first | omega | split)

set_option maxHeartbeats 400000 in
theorem below_any (c : Int) (w : World) (h1 : 0 ≤ c) (h2 : c ≤ 255) :
    Calls Trym.prog 5 #[.int .u8 c] w fun e w' => e = .returned (.bool true) ∧ Grown w w' := by
  go_enter Trym.func5, Trym.ntmps5
  go_wp2
  go_loop [3, 4] (fun bv iv => ∃ i : Int, iv = .int .i64 i ∧ 0 ≤ i ∧ i ≤ c ∧ bv = .int .i64 (cl (i - 48))) (fun _ iv => (c - intOf iv).toNat)
  case atStart => exact ⟨0, rfl, by omega, h1, rfl⟩
  case round =>
    obtain ⟨i, rfl, hi1, hi2, rfl⟩ := hrel
    obtain ⟨hb1, hb2⟩ := cl_bd (i - 48)
    by_cases h0 : i < c
    · by_cases hd : 48 ≤ i
      · by_cases hd2 : i ≤ 57
        · go_wp2_with (go_at_call 11; refine (digit_yes _ _ (by omega) (by omega)).mono ?_; rintro e w' ⟨rfl, rfl⟩)
          go_round
          case rel => exact ⟨i + 1, rfl, by omega, by omega, by rw [cl_digit i hd hd2]⟩
          case measure => simp [intOf]; omega
        · go_wp2_with (go_at_call 11; refine (digit_high _ _ (by omega)).mono ?_; rintro e w' ⟨rfl, rfl⟩)
          go_round
          case rel => exact ⟨i + 1, rfl, by omega, by omega, by rw [cl_high i (by omega)]⟩
          case measure => simp [intOf]; omega
      · go_wp2_with (go_at_call 11; refine (digit_low _ _ (by omega)).mono ?_; rintro e w' ⟨rfl, rfl⟩)
        go_round
        case rel => exact ⟨i + 1, rfl, by omega, by omega, by rw [cl_low i (by omega)]⟩
        case measure => simp [intOf]; omega
    · obtain rfl : i = c := by omega
      have e47 : i + 1 - 48 = i - 47 := by omega
      by_cases hd : 48 ≤ i
      · by_cases hd2 : i ≤ 57
        · have he : (cl (i - 48) + 1 == cl (i - 47)) = true := by rw [cl_digit i hd hd2, e47]; simp
          clear e47
          go_wp2_with (first | (go_at_call 11; refine (digit_yes _ _ (by omega) (by omega)).mono ?_; rintro e w' ⟨rfl, rfl⟩) | (go_at_call 12; refine (clamp_any _ _).mono ?_; rintro e w' ⟨rfl, rfl⟩))
          go_ret
          exact ⟨rfl, Grown.refl _⟩
        · have he : (cl (i - 48) == cl (i - 47)) = true := by rw [cl_high i (by omega), e47]; simp
          clear e47
          go_wp2_with (first | (go_at_call 11; refine (digit_high _ _ (by omega)).mono ?_; rintro e w' ⟨rfl, rfl⟩) | (go_at_call 12; refine (clamp_any _ _).mono ?_; rintro e w' ⟨rfl, rfl⟩))
          go_ret
          exact ⟨rfl, Grown.refl _⟩
      · have he : (cl (i - 48) == cl (i - 47)) = true := by rw [cl_low i (by omega), e47]; simp
        clear e47
        go_wp2_with (first | (go_at_call 11; refine (digit_low _ _ (by omega)).mono ?_; rintro e w' ⟨rfl, rfl⟩) | (go_at_call 12; refine (clamp_any _ _).mono ?_; rintro e w' ⟨rfl, rfl⟩))
        go_ret
        exact ⟨rfl, Grown.refl _⟩
end Go.Proofs.Qxb6618564aMods.Digits
