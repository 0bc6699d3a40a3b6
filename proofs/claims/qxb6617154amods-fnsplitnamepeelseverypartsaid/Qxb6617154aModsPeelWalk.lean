/-
  The walk of FnSplitNamePeelsEveryPart (function 6 of the dump).
-/
import Derived.Test.Qxb6617154aModsPeel
namespace Go.Proofs.Qxb6617154aMods.fnSplitNamePeelsEveryPart
open Go.ChangeShapes Go.WideShapes Go.ChangeAt Go.RowKit

/-! ### STEP 1: THE WALK: the Go text returns true -/
theorem zzbytes_yes (a : ByteArray) (w : World) (h : a.size ≤ 1048576) :
    Calls Trym.prog 20 #[.string a] w fun e w' => e = .returned (.bool true) ∧ w' = w := by
  go_enter Trym.func20, Trym.ntmps20
  go_wp2
  go_ret
  exact ⟨rfl, rfl⟩

theorem zzbytes_no (a : ByteArray) (w : World) (h : 1048576 < a.size) :
    Calls Trym.prog 20 #[.string a] w fun e w' => e = .returned (.bool false) ∧ w' = w := by
  go_enter Trym.func20, Trym.ntmps20
  go_wp2
  go_ret
  exact ⟨rfl, rfl⟩

set_option maxHeartbeats 1000000 in
theorem walk (a0 : ByteArray) (_w0 : a0.size ≤ maxLen) (w : World) :
    Calls Trym.prog 6 #[.string a0] w fun e w' => e = .returned (.bool true) ∧ Grown w w' := by
  by_cases hn : a0.size ≤ 1048576
  case neg =>
    have hn' : 1048576 < a0.size := by omega
    clear hn
    go_enter Trym.func6, Trym.ntmps6
    go_wp2_with (go_at_call 20; refine (zzbytes_no a0 _ hn').mono ?_; rintro e w' ⟨rfl, rfl⟩)
    go_ret
    exact ⟨rfl, Grown.refl _⟩
  go_enter Trym.func6, Trym.ntmps6
  go_wp2_with (go_at_call 20; refine (zzbytes_yes a0 _ hn).mono ?_; rintro e w' ⟨rfl, rfl⟩)
  go_loop [3, 4] (fun n i => ∃ k : Nat, k ≤ a0.size ∧ i = .int .i64 k ∧ n = .int .i64 (Split.cnt (a0.data.toList.take k))) (fun _ i => a0.size - (intOf i).toNat)
  case atStart => exact ⟨0, Nat.zero_le _, rfl, rfl⟩
  case round =>
    obtain ⟨k, hk, rfl, rfl⟩ := hrel
    have hc := Split.cnt_le (a0.data.toList.take k)
    rw [List.length_take] at hc
    by_cases hlt : k < a0.size
    · have HT : Hid (a0.data.toList.take (k + 1) = a0.data.toList.take k ++ [a0[k]]) := Split.take_snoc a0 k hlt
      have hc' : Split.cnt (a0.data.toList.take k) ≤ 1048576 := by omega
      clear hc
      go_wp2
      · have hb : ((a0[k].toNat : Int) == 47) = true := by assumption
        go_round
        case rel => exact ⟨k + 1, by omega, by go_num, by rw [HT.out, Split.cnt_snoc_yes _ _ (Split.byte_yes _ hb)]; go_num⟩
        case measure => simp [intOf]; omega
      · have hb : ((a0[k].toNat : Int) == 47) = false := by assumption
        go_round
        case rel => exact ⟨k + 1, by omega, by go_num, by rw [HT.out, Split.cnt_snoc_no _ _ (Split.byte_no _ hb)]⟩
        case measure => simp [intOf]; omega
    · obtain rfl : k = a0.size := by omega
      have hall : a0.data.toList.take a0.size = a0.data.toList := by rw [← Split.length_size, List.take_length]
      rw [hall] at hc ⊢
      clear hall
      have hN : Split.cnt a0.data.toList ≤ 1048576 := by omega
      have HI : Hid (Split.Inv a0 (Split.cnt a0.data.toList) 0 a0.size a0) := Split.inv_start a0
      clear hc
      generalize Split.cnt a0.data.toList = N at *
      go_wp2
      go_loopw [5, 6, 7] (fun c e k wr => ∃ (K E : Nat) (C : ByteArray), c = .string C ∧ e = .int .i64 E ∧ k = .int .i64 K ∧ Split.Inv a0 N K E C ∧ Grown w' wr) (fun _ _ k _ => N + 1 - (intOf k).toNat)
      case atStart => exact ⟨0, a0.size, a0, rfl, rfl, rfl, HI.out, Grown.refl _⟩
      case round =>
        obtain ⟨K, E, C, rfl, rfl, rfl, hi, hg⟩ := hrel
        obtain ⟨hK, hE⟩ := Split.inv_le hi
        by_cases c1 : K < N
        · obtain ⟨d, b, hj, hb, he, _, hx, h47, hi'⟩ := Split.inv_step hi c1
          have J : Hid (C = Split.join d b) := hj
          have hCs : C.size = d.size + 1 + b.size := by rw [hj, Split.join_size]
          have hC : C.size ≤ 1048577 := by omega
          clear hCs
          have hbm : b.size ≤ maxLen := by unfold maxLen; omega
          have X : Hid (a0.extract (d.size + 1) E = b) := hx
          have I : Hid (Split.Inv a0 N (K + 1) d.size d) := hi'
          have hd0 : d.size < a0.size := by omega
          have hat : a0.data.toList[d.size]? = some a0[d.size] := Split.at_some a0 d.size hd0
          have h47' : a0[d.size] = 47 := by rw [h47] at hat; exact (Option.some.inj hat).symm
          have B47 : Hid (a0[d.size] = 47) := h47'
          subst he
          clear hj hx hi' hi HI h47 hat h47'
          go_wp2_with (first | (go_at_call 9; refine (Split.zz_at C d b _ hC J.out hb).mono ?_; rintro e w2 ⟨rfl, hg2⟩) | (go_at_call 8; refine (Split.hasSlash_any b _ hbm).mono ?_; rintro e w3 ⟨rfl, rfl⟩))
          · have hne : (!(a0.extract (d.size + 1) (d.size + 1 + b.size)).toList == b.toList) = true := by assumption
            rw [X.out] at hne
            exact absurd hne (by simp)
          · have hne : ((d.size : Int) + 1 == 0) = true ∨ ((a0[d.size].toNat : Int) != 47) = true := by assumption
            rw [B47.out] at hne
            rcases hne with h | h
            · rw [beq_iff_eq] at h
              exact absurd h (by omega)
            · exact absurd h (by decide)
          · go_roundw
            case rel => exact ⟨K + 1, d.size, d, rfl, rfl, by go_num, I.out, Split.grown_trans hg hg2⟩
            case measure => simp [intOf]; omega
        · by_cases c2 : K = N
          · subst c2
            obtain ⟨hb, hce, hx, _⟩ := Split.inv_last hi
            subst hce
            have X : Hid (a0.extract 0 C.size = C) := hx
            have hCm : C.size ≤ maxLen := by unfold maxLen; omega
            clear hx hi HI
            go_wp2_with (first | (go_at_call 9; refine (Split.zz_no C _ hCm hb).mono ?_; rintro e w2 ⟨rfl, hg2⟩) | (go_at_call 8; refine (Split.hasSlash_any C _ hCm).mono ?_; rintro e w3 ⟨rfl, rfl⟩))
            · have hne : (!(a0.extract 0 C.size).toList == C.toList) = true := by assumption
              rw [X.out] at hne
              exact absurd hne (by simp)
            · go_roundw
              case rel => exact ⟨K + 1, 0, ⟨#[]⟩, rfl, rfl, by go_num, Split.inv_next a0 K, Split.grown_trans hg hg2⟩
              case measure => simp [intOf]
          · obtain ⟨rfl, rfl, rfl⟩ := Split.inv_end hi (by omega)
            go_wp2
            go_ret
            exact ⟨rfl, hg⟩

end Go.Proofs.Qxb6617154aMods.fnSplitNamePeelsEveryPart
